import JvmDerived
import JvmDerived.Pilot.@@N@@Statement
import JvmDerived.Pilot.@@N@@Code
set_option linter.unusedVariables false
set_option linter.unusedSimpArgs false
namespace Jvm.RoadKit
open Sem ClassFile Op Lib Jvm.Stand Jvm.Free Jvm.LawKit
section Own
variable {p : Program} {l : Launch} {e : Env} {R : Room} {s : State} {m : MethodId} {args : Array Value} {below : List Frame} {meth : Method} {c : Code} {T : State} {locs : List Loc} {cells slots : Nat} {Z : State} {a0 : Array Value} {h h' : Heap}
theorem retI (X : Stand p l e R s m args below meth c T locs cells slots) (hx : p.tables.exec = Jvm.exec) {pc : Nat} {Ls : Array Slot} {z : Int32} {rest : List Value} (hret : meth.sig.returnType = some .int) (hd : decode c.code pc = .ok (.ireturn, 1)) {fs : List Frame}
    (hl : ∀ (f : JFrame) (acts : List Action), f.method = m → f.locked = none → f.entered = [] → (doReturn e (T.setTop f) acts (some (.int z))).1 = T.setFrames fs) : Steps p.tables e below (T.setTop (mkF m pc Ls (.int z :: rest))) (T.setFrames fs) := by
  have hm' : T.vm.method? m = some meth := X.method'
  have hn : narrow .int (.int z) = .int z := rfl
  show Steps p.tables e below (T.setTop { method := m, pc := pc, locals := Ls, stack := _ :: rest, locked := none }) _
  jvm_step X.here [X.here.top, hx, hd, hm', hret, hn]
  first | (intro acts; rw [hl _ acts rfl rfl rfl]) | rw [hl _ _ rfl rfl rfl]
  exact Steps.refl _
/-- from this frame the walk comes to an end that says G -/
def Rch (p : Program) (e : Env) (below : List Frame) (G : State → Outcome → Prop) (T : State) (g : JFrame) : Prop :=
  ∃ s₂ o, Steps p.tables e below (T.setTop g) s₂ ∧ s₂.status = .running ∧ Ended s₂ below o ∧ G s₂ o
variable {G : State → Outcome → Prop} {T' : State} {g g' : JFrame}
theorem Rch.go (st : ∀ t, Steps p.tables e below (T'.setTop g') t → Steps p.tables e below (T.setTop g) t) (k : Rch p e below G T' g') : Rch p e below G T g := by
  obtain ⟨s2, o, a, b⟩ := k
  exact ⟨s2, o, st _ a, b⟩
theorem Rch.jump (st : Steps p.tables e below (T.setTop g) (T'.setTop g')) (k : Rch p e below G T' g') : Rch p e below G T g := Rch.go (fun _ q => st.trans q) k
theorem Rch.entry {n : Nat} (q : entryFrame m args n = g) (k : Rch p e below G T g) : ∃ s₂ o, Steps p.tables e below (T.setTop (entryFrame m args n)) s₂ ∧ s₂.status = .running ∧ Ended s₂ below o ∧ G s₂ o := by rw [q]; exact k
/-- what a contract says of its end -/
def EndQ (Q : Option Value → Heap → List Loc → Prop) (U : State) (kc ks : Nat) (U' : State) (o : Outcome) : Prop := ∃ v L, o = .returned v ∧ Q v U'.heap L ∧ FrameEnd U o U' L kc ks
variable {Q : Option Value → Heap → List Loc → Prop} {kc ks : Nat} {pc : Nat} {Ls : Array Slot} {rest : List Value}
theorem Rch.retI (X : Stand p l e R s m args below meth c T locs cells slots) (hx : p.tables.exec = Jvm.exec) (hlk : meth.locks = false) {z : Int32} (hret : meth.sig.returnType = some .int) (hd : decode c.code pc = .ok (.ireturn, 1)) (hc : cells ≤ kc) (hs : slots ≤ ks) (hQ : Q (some (.int z)) T.heap locs) : Rch p e below (EndQ Q s kc ks) T (mkF m pc Ls (.int z :: rest)) := by
  obtain ⟨fs, hr, hrun, hended, hW, hsame⟩ := X.leave (v := some (.int z)) (fun h => by rw [hret] at h; cases h)
  exact ⟨_, _, Jvm.RoadKit.retI X hx hret hd hr, hrun, hended, _, _, rfl, hQ, ⟨_, rfl⟩, hW, hsame.mono hc hs⟩
theorem Rch.retZ (X : Stand p l e R s m args below meth c T locs cells slots) (hx : p.tables.exec = Jvm.exec) (hlk : meth.locks = false) {z : Int32} (hret : meth.sig.returnType = some .boolean) (hd : decode c.code pc = .ok (.ireturn, 1)) (hc : cells ≤ kc) (hs : slots ≤ ks) (hQ : Q (some (.int (nar .boolean z))) T.heap locs) : Rch p e below (EndQ Q s kc ks) T (mkF m pc Ls (.int z :: rest)) := by
  obtain ⟨fs, hr, hrun, hended, hW, hsame⟩ := X.leave (v := some (.int (nar .boolean z))) (fun h => by rw [hret] at h; cases h)
  exact ⟨_, _, retN X hx hret (Or.inl rfl) hd hr, hrun, hended, _, _, rfl, hQ, ⟨_, rfl⟩, hW, hsame.mono hc hs⟩
theorem Rch.retJ (X : Stand p l e R s m args below meth c T locs cells slots) (hx : p.tables.exec = Jvm.exec) (hlk : meth.locks = false) {z : Int64} (hret : meth.sig.returnType = some .long) (hd : decode c.code pc = .ok (.lreturn, 1)) (hc : cells ≤ kc) (hs : slots ≤ ks) (hQ : Q (some (.long z)) T.heap locs) : Rch p e below (EndQ Q s kc ks) T (mkF m pc Ls (.long z :: rest)) := by
  obtain ⟨fs, hr, hrun, hended, hW, hsame⟩ := X.leave (v := some (.long z)) (fun h => by rw [hret] at h; cases h)
  exact ⟨_, _, retOut X hx hret rfl (Or.inr (Or.inl ⟨rfl, rfl, _, rfl⟩)) hd hr, hrun, hended, _, _, rfl, hQ, ⟨_, rfl⟩, hW, hsame.mono hc hs⟩
theorem Rch.retA (X : Stand p l e R s m args below meth c T locs cells slots) (hx : p.tables.exec = Jvm.exec) (hlk : meth.locks = false) {a : Addr} {t : FieldType} (ht : t.isReference = true) (hn : narrow t (.ref a) = .ref a) (hret : meth.sig.returnType = some t) (hd : decode c.code pc = .ok (.areturn, 1)) (hc : cells ≤ kc) (hs : slots ≤ ks) (hQ : Q (some (.ref a)) T.heap locs) : Rch p e below (EndQ Q s kc ks) T (mkF m pc Ls (.ref a :: rest)) := by
  obtain ⟨fs, hr, hrun, hended, hW, hsame⟩ := X.leave (v := some (.ref a)) (fun h => by rw [hret] at h; cases h)
  exact ⟨_, _, retOut X hx hret hn (Or.inr (Or.inr (Or.inr (Or.inr ⟨rfl, ht, rfl⟩)))) hd hr, hrun, hended, _, _, rfl, hQ, ⟨_, rfl⟩, hW, hsame.mono hc hs⟩
theorem Rch.retV (X : Stand p l e R s m args below meth c T locs cells slots) (hx : p.tables.exec = Jvm.exec) (hlk : meth.locks = false) (hret : meth.sig.returnType = none) (hd : decode c.code pc = .ok (.return_, 1)) (hc : cells ≤ kc) (hs : slots ≤ ks) (hQ : Q none T.heap locs) : Rch p e below (EndQ Q s kc ks) T (mkF m pc Ls []) := by
  obtain ⟨fs, hr, hrun, hended, hW, hsame⟩ := X.leave (v := none) (fun _ => rfl)
  exact ⟨_, _, X.returnOut hx hret hd hr, hrun, hended, _, _, rfl, hQ, ⟨_, rfl⟩, hW, hsame.mono hc hs⟩
variable {a : Addr} {k : ClassId} {z : Int32} {vs : List Value} {dv : Value} {ty : FieldType}
theorem ldB (X : Stand p l e R s m args below meth c T locs cells slots) (hx : p.tables.exec = Jvm.exec) (hZ : Z.Warmed39 s.vm) (eT : T.heap = h) (V : Arv Z h a k .byte z vs dv) {j : Int32} {v : Value} (hj : ¬ j < 0 ∧ j < z) (hv : vs.getD j.toNatClampNeg dv = v) (hg : g.method = m) (hs : g.stack = .int j :: .ref a :: rest) (hd : decode c.code g.pc = .ok (.baload, 1)) (target : State)
    (hr : Steps p.tables e below (T.setTop { g with pc := g.pc + 1, stack := v :: rest }) target) : Steps p.tables e below (T.setTop g) target := by
  obtain ⟨c', A, -, S, M, H, -⟩ := V
  exact X.baloadBytes hx (by rw [eT]; exact A.1) (State.isArrayOf_alike hZ.alike A.2.1) A.2.2 (inb_of S hj) (H.at (inb_of S hj) hv) hg hs hd target hr
theorem ldI (X : Stand p l e R s m args below meth c T locs cells slots) (hx : p.tables.exec = Jvm.exec) (hZ : Z.Warmed39 s.vm) (eT : T.heap = h) (V : Arv Z h a k .int z vs dv) {j : Int32} {v : Value} (hj : ¬ j < 0 ∧ j < z) (hv : vs.getD j.toNatClampNeg dv = v) (hg : g.method = m) (hs : g.stack = .int j :: .ref a :: rest) (hd : decode c.code g.pc = .ok (.iaload, 1)) (target : State)
    (hr : Steps p.tables e below (T.setTop { g with pc := g.pc + 1, stack := v :: rest }) target) : Steps p.tables e below (T.setTop g) target := by
  obtain ⟨c', A, -, S, M, H, -⟩ := V
  exact X.iaload hx (by rw [eT]; exact A.1) (State.isArrayOf_alike hZ.alike A.2.1) A.2.2 (inb_of S hj) (H.at (inb_of S hj) hv) hg hs hd target hr
theorem ldJ (X : Stand p l e R s m args below meth c T locs cells slots) (hx : p.tables.exec = Jvm.exec) (hZ : Z.Warmed39 s.vm) (eT : T.heap = h) (V : Arv Z h a k .long z vs dv) {j : Int32} {v : Value} (hj : ¬ j < 0 ∧ j < z) (hv : vs.getD j.toNatClampNeg dv = v) (hg : g.method = m) (hs : g.stack = .int j :: .ref a :: rest) (hd : decode c.code g.pc = .ok (.laload, 1)) (target : State)
    (hr : Steps p.tables e below (T.setTop { g with pc := g.pc + 1, stack := v :: rest }) target) : Steps p.tables e below (T.setTop g) target := by
  obtain ⟨c', A, -, S, M, H, -⟩ := V
  exact X.laload hx (by rw [eT]; exact A.1) (State.isArrayOf_alike hZ.alike A.2.1) A.2.2 (inb_of S hj) (H.at (inb_of S hj) hv) hg hs hd target hr
theorem lenA (X : Stand p l e R s m args below meth c T locs cells slots) (hx : p.tables.exec = Jvm.exec) (hZ : Z.Warmed39 s.vm) (eT : T.heap = h) (V : Arv Z h a k ty z vs dv) (hg : g.method = m) (hs : g.stack = .ref a :: rest) (hd : decode c.code g.pc = .ok (.arraylength, 1)) (target : State)
    (hr : Steps p.tables e below (T.setTop { g with pc := g.pc + 1, stack := .int z :: rest }) target) : Steps p.tables e below (T.setTop g) target := by
  obtain ⟨c', A, -, S, M, H, -⟩ := V
  exact X.arraylength hx (by rw [eT]; exact A.1) (State.isArrayOf_alike hZ.alike A.2.1) hg hs hd target (by rw [len_of S M]; exact hr)
theorem sdB (X : Stand p l e R s m args below meth c T locs cells slots) (hx : p.tables.exec = Jvm.exec) (hZ : Z.Warmed39 s.vm) (eT : T.heap = h) (V : Arv Z h a k .byte z vs dv) {j x : Int32} (hj : ¬ j < 0 ∧ j < z) (i : Nat) (hi : j.toNatClampNeg = i) (hl : i < vs.length) (hg : g.method = m) (hs : g.stack = .int x :: .int j :: .ref a :: rest) (hd : decode c.code g.pc = .ok (.bastore, 1)) :
    ∃ T' h', Stand p l e R s m args below meth c T' (locs ++ [⟨a, j.toNatClampNeg⟩]) cells slots ∧ T'.heap = h' ∧ Wr h h' a j.toNatClampNeg (.int (nar .byte x)) ∧ Arv Z h' a k .byte z (vs.set i (.int (nar .byte x))) dv ∧ ∀ target, Steps p.tables e below (T'.setTop { g with pc := g.pc + 1, stack := rest }) target → Steps p.tables e below (T.setTop g) target := by
  obtain ⟨c', A, q1, S, M, H, F⟩ := V
  obtain ⟨T', h', X', e', W, st⟩ := stB X hx hZ eT A (inb_of S hj) hg hs hd
  exact ⟨T', h', X', e', W, Arv.set A q1 S M H F (fits_nar_byte x) W i hi hl, st⟩
theorem sdI (X : Stand p l e R s m args below meth c T locs cells slots) (hx : p.tables.exec = Jvm.exec) (hZ : Z.Warmed39 s.vm) (eT : T.heap = h) (V : Arv Z h a k .int z vs dv) {j x : Int32} (hj : ¬ j < 0 ∧ j < z) (i : Nat) (hi : j.toNatClampNeg = i) (hl : i < vs.length) (hg : g.method = m) (hs : g.stack = .int x :: .int j :: .ref a :: rest) (hd : decode c.code g.pc = .ok (.iastore, 1)) :
    ∃ T' h', Stand p l e R s m args below meth c T' (locs ++ [⟨a, j.toNatClampNeg⟩]) cells slots ∧ T'.heap = h' ∧ Wr h h' a j.toNatClampNeg (.int x) ∧ Arv Z h' a k .int z (vs.set i (.int x)) dv ∧ ∀ target, Steps p.tables e below (T'.setTop { g with pc := g.pc + 1, stack := rest }) target → Steps p.tables e below (T.setTop g) target := by
  obtain ⟨c', A, q1, S, M, H, F⟩ := V
  obtain ⟨T', h', X', e', W, st⟩ := stI X hx hZ eT A (inb_of S hj) hg hs hd
  exact ⟨T', h', X', e', W, Arv.set A q1 S M H F rfl W i hi hl, st⟩
theorem sdJ (X : Stand p l e R s m args below meth c T locs cells slots) (hx : p.tables.exec = Jvm.exec) (hZ : Z.Warmed39 s.vm) (eT : T.heap = h) (V : Arv Z h a k .long z vs dv) {j : Int32} {x : Int64} (hj : ¬ j < 0 ∧ j < z) (i : Nat) (hi : j.toNatClampNeg = i) (hl : i < vs.length) (hg : g.method = m) (hs : g.stack = .long x :: .int j :: .ref a :: rest) (hd : decode c.code g.pc = .ok (.lastore, 1)) :
    ∃ T' h', Stand p l e R s m args below meth c T' (locs ++ [⟨a, j.toNatClampNeg⟩]) cells slots ∧ T'.heap = h' ∧ Wr h h' a j.toNatClampNeg (.long x) ∧ Arv Z h' a k .long z (vs.set i (.long x)) dv ∧ ∀ target, Steps p.tables e below (T'.setTop { g with pc := g.pc + 1, stack := rest }) target → Steps p.tables e below (T.setTop g) target := by
  obtain ⟨c', A, q1, S, M, H, F⟩ := V
  obtain ⟨T', h', X', e', W, st⟩ := stJ X hx hZ eT A (inb_of S hj) hg hs hd
  exact ⟨T', h', X', e', W, Arv.set A q1 S M H F rfl W i hi hl, st⟩
theorem naw (X : Stand p l e R s m args below meth c T locs cells slots) (hx : p.tables.exec = Jvm.exec) (hZ : Z.Warmed39 s.vm) {aty : ArrayType} (w : (Cond.arrayClass (newarray.typeOf aty)).before a0 Z = true) (eT : T.heap = h) (hg : g.method = m) (hd : decode c.code g.pc = .ok (.newarray aty, 2)) {n : Int32} (hs : g.stack = .int n :: rest)
    (hn : ¬ n < 0) (i : Nat) {cap : Nat} (hcap : n.toNatClampNeg ≤ cap) (hb : cap * 8 ≤ 536870912) (hc : cells + 1 ≤ R.cells) (hl : slots + cap ≤ R.slots) :
    ∃ T' h' cA, Stand p l e R s m args below meth c T' locs (cells + 1) (slots + cap) ∧ T'.heap = h' ∧ Ext h h' ∧ Arv Z h' h.size cA (newarray.typeOf aty) n (List.replicate i (defaultValue (newarray.typeOf aty))) (defaultValue (newarray.typeOf aty)) ∧
      ∀ target, Steps p.tables e below (T'.setTop { g with pc := g.pc + 2, stack := .ref h.size :: rest }) target → Steps p.tables e below (T.setTop g) target := by
  obtain ⟨T', h', cA, X', e', E, A, st⟩ := newP X hx hZ w eT hg hd hs hn hcap hb hc hl
  exact ⟨T', h', cA, X', e', E, (Arv.new A hn).pad (fun q => (pad_rep [] _ i q)), st⟩
end Own
end Jvm.RoadKit
namespace Jvm.Pilot.@@N@@
open Jvm Jvm.ClassFile Sem Op Lib Jvm.Free Jvm.Stand Jvm.LawKit Jvm.RoadKit Bundle Jvm.Pilot.@@N@@.Jvm.D
theorem own_pop2 {tb : Tables} [Ours tb] {e : Env} {below : List Frame} {T target : State} {m : MethodId} {c : Code} {g : JFrame} (h : At T m c below) (hx : tb.exec = Jvm.exec) (hg : g.method = m) {x : Int64} {rest : List Value} (hd : decode c.code g.pc = .ok (.pop2, 1)) (hs : g.stack = .long x :: rest)
    (hr : Steps tb e below (T.setTop { g with pc := g.pc + 1, stack := rest }) target) : Steps tb e below (T.setTop g) target := by
  subst hg
  jvm_step h [h.top, hx, hd, hs, Value.category]
  exact hr
def own_max (a b : Int32) : Int32 := if a < b then b else a
def own_min (a b : Int32) : Int32 := if b < a then b else a
theorem own_getD_set (vs : List Value) (i j : Nat) (v dv : Value) (h : i < vs.length) : (vs.set i v).getD j dv = if j = i then v else vs.getD j dv := by
  simp only [List.getD_eq_getElem?_getD, List.getElem?_set]
  by_cases q : i = j
  · subst q; simp [h]
  · have q' : ¬ j = i := fun e => q e.symm
    simp [q, q']
theorem own_rep0 (n i : Nat) : (List.replicate n (Value.long 0)).getD i (.long 0) = .long 0 := by
  simp only [List.getD_eq_getElem?_getD, List.getElem?_replicate]
  split <;> rfl
theorem own_copy (vs : List Value) (n z i : Nat) (hz : vs.length = z) (h : z ≤ n) : ((List.replicate n (Value.long 0)).take 0 ++ ((List.range z).map fun i => vs.getD (0 + i) (.long 0)) ++ (List.replicate n (Value.long 0)).drop (0 + z)).getD i (.long 0) = vs.getD i (.long 0) := by
  simp only [List.take_zero, List.nil_append, Nat.zero_add, List.getD_eq_getElem?_getD, List.getElem?_append, List.length_map, List.length_range]
  split
  · rename_i q
    simp [List.getElem?_map, List.getElem?_range q]
  · rename_i q
    have : vs[i]? = none := List.getElem?_eq_none (by omega)
    rw [this]
    simp only [List.drop_replicate, List.getElem?_replicate]
    split <;> rfl
theorem own_copy_len (vs : List Value) (n z : Nat) (hz : vs.length = z) (h : z ≤ n) : ((List.replicate n (Value.long 0)).take 0 ++ ((List.range z).map fun i => vs.getD (0 + i) (.long 0)) ++ (List.replicate n (Value.long 0)).drop (0 + z)).length = n := by
  simp; omega
theorem own_nat (x : Int32) (h : 0 ≤ x.toInt) : (x.toNatClampNeg : Int) = x.toInt := by simp only [Int32.toNatClampNeg]; omega
theorem own_sel {s : State} {args : Array Value} {n : Nat} {y : MethodName} (hy : y.cls ≠ "java/lang/invoke/MethodHandle" ∧ y.cls ≠ "java/lang/invoke/VarHandle") (hins : (Cond.instantiable y.cls n).before args s = true) (hpriv : (Cond.privateMethod y).before args s = true) (hinst : (Cond.instanceMethod y).before args s = true) :
    (Cond.selects y.cls y y).before args s = true := by
  obtain ⟨c, k, hc, hk, -, hniab, -, -⟩ := Cond.instantiable_spec hins
  have hni : k.isInterface = false := (Bool.or_eq_false_iff.mp hniab).1
  obtain ⟨mk, methM, hnamed, hmethM, -, -⟩ := Cond.instanceMethod_spec hinst
  have hfound : s.methodFound? y.cls y.name y.desc = some mk := State.methodFound?_of_named hnamed hy
  have hcls : mk.cls = c := Option.some.inj ((findClass_of_methodNamed hnamed).symm.trans hc)
  have hsel : selectMethod {} s.vm c mk = .method mk := selectMethod_private hmethM (Cond.privateMethod_at hpriv mk methM hnamed hmethM)
  simp only [Cond.before, Cond.holds, Cond.value, hc, hfound, hnamed, hsel, hcls, hk]
  simp; exact hni
def own_nm : List (String × String) := [("runSizes", "[I"), ("runStarts", "[I"), ("runCount", "I"), ("count", "I"), ("sum", "J"), ("frontSums", "[J"), ("frontCount", "I"), ("frontRun", "I"), ("backSums", "[J"), ("backCount", "I"), ("backRun", "I"), ("leftOutSize", "I"), ("leftOut", "I"), ("gapBelow", "J"), ("gapAbove", "J")]
def own_FL (Z : State) (h : Heap) (so : Addr) (vs : List Value) : Prop := ∀ (i : Nat) (nm d : String) (v : Value), own_nm[i]? = some (nm, d) → vs[i]? = some v → Fld Z h so "com/example/binflow/binflow/solve/SubsetSums" nm d v
theorem own_nm_cases {P : Nat → String → String → Prop} (hP : P 0 "runSizes" "[I" ∧ P 1 "runStarts" "[I" ∧ P 2 "runCount" "I" ∧ P 3 "count" "I" ∧ P 4 "sum" "J" ∧ P 5 "frontSums" "[J" ∧ P 6 "frontCount" "I" ∧ P 7 "frontRun" "I" ∧ P 8 "backSums" "[J" ∧ P 9 "backCount" "I" ∧ P 10 "backRun" "I" ∧ P 11 "leftOutSize" "I" ∧ P 12 "leftOut" "I" ∧ P 13 "gapBelow" "J" ∧ P 14 "gapAbove" "J") : ∀ (i : Nat) (nm d : String), own_nm[i]? = some (nm, d) → P i nm d := by
  intro i nm d hi
  match i, hi with
  | 0, hi => cases Option.some.inj hi; exact hP.1
  | 1, hi => cases Option.some.inj hi; exact hP.2.1
  | 2, hi => cases Option.some.inj hi; exact hP.2.2.1
  | 3, hi => cases Option.some.inj hi; exact hP.2.2.2.1
  | 4, hi => cases Option.some.inj hi; exact hP.2.2.2.2.1
  | 5, hi => cases Option.some.inj hi; exact hP.2.2.2.2.2.1
  | 6, hi => cases Option.some.inj hi; exact hP.2.2.2.2.2.2.1
  | 7, hi => cases Option.some.inj hi; exact hP.2.2.2.2.2.2.2.1
  | 8, hi => cases Option.some.inj hi; exact hP.2.2.2.2.2.2.2.2.1
  | 9, hi => cases Option.some.inj hi; exact hP.2.2.2.2.2.2.2.2.2.1
  | 10, hi => cases Option.some.inj hi; exact hP.2.2.2.2.2.2.2.2.2.2.1
  | 11, hi => cases Option.some.inj hi; exact hP.2.2.2.2.2.2.2.2.2.2.2.1
  | 12, hi => cases Option.some.inj hi; exact hP.2.2.2.2.2.2.2.2.2.2.2.2.1
  | 13, hi => cases Option.some.inj hi; exact hP.2.2.2.2.2.2.2.2.2.2.2.2.2.1
  | 14, hi => cases Option.some.inj hi; exact hP.2.2.2.2.2.2.2.2.2.2.2.2.2.2
  | n + 15, hi => exact absurd hi (by simp [own_nm])
theorem own_laid {Z : State} {a0 : Array Value} (hw : ∀ d ∈ tables_1, d.before a0 Z = true) : ∀ (i : Nat) (nm d : String), own_nm[i]? = some (nm, d) → (Laid Z a0 "com/example/binflow/binflow/solve/SubsetSums" "com/example/binflow/binflow/solve/SubsetSums" nm d ∧ ∃ t, parseFieldDescriptor d = some t) :=
  own_nm_cases (P := fun _ nm d => Laid Z a0 "com/example/binflow/binflow/solve/SubsetSums" "com/example/binflow/binflow/solve/SubsetSums" nm d ∧ ∃ t, parseFieldDescriptor d = some t) ⟨⟨(Or.inr (hw _ (List.mem_of_getElem? (i := 23) rfl))), _, rfl⟩, ⟨(Or.inr (hw _ (List.mem_of_getElem? (i := 25) rfl))), _, rfl⟩, ⟨(Or.inl (hw _ (List.mem_of_getElem? (i := 32) rfl))), _, rfl⟩, ⟨(Or.inl (hw _ (List.mem_of_getElem? (i := 34) rfl))), _, rfl⟩, ⟨(Or.inl (hw _ (List.mem_of_getElem? (i := 36) rfl))), _, rfl⟩, ⟨(Or.inl (hw _ (List.mem_of_getElem? (i := 18) rfl))), _, rfl⟩, ⟨(Or.inl (hw _ (List.mem_of_getElem? (i := 75) rfl))), _, rfl⟩, ⟨(Or.inl (hw _ (List.mem_of_getElem? (i := 86) rfl))), _, rfl⟩, ⟨(Or.inl (hw _ (List.mem_of_getElem? (i := 20) rfl))), _, rfl⟩, ⟨(Or.inl (hw _ (List.mem_of_getElem? (i := 38) rfl))), _, rfl⟩, ⟨(Or.inl (hw _ (List.mem_of_getElem? (i := 40) rfl))), _, rfl⟩, ⟨(Or.inl (hw _ (List.mem_of_getElem? (i := 65) rfl))), _, rfl⟩, ⟨(Or.inl (hw _ (List.mem_of_getElem? (i := 63) rfl))), _, rfl⟩, ⟨(Or.inl (hw _ (List.mem_of_getElem? (i := 99) rfl))), _, rfl⟩, ⟨(Or.inl (hw _ (List.mem_of_getElem? (i := 101) rfl))), _, rfl⟩⟩
theorem own_nm_ne_d : ∀ i j : Fin 15, i ≠ j → (own_nm[i.val]?.map Prod.fst) ≠ (own_nm[j.val]?.map Prod.fst) := by decide +kernel
theorem own_nm_ne {i j : Nat} {n n' d d' : String} (hi : own_nm[i]? = some (n, d)) (hj : own_nm[j]? = some (n', d')) (q : j ≠ i) : n' ≠ n := by
  have li : i < 15 := (List.getElem?_eq_some_iff.mp hi).1
  have lj : j < 15 := (List.getElem?_eq_some_iff.mp hj).1
  have := own_nm_ne_d ⟨j, lj⟩ ⟨i, li⟩ (fun e => q (Fin.mk.inj e))
  simp only [hi, hj, Option.map_some] at this
  exact fun e => this (by rw [e])
theorem own_FL_put {Z : State} {a0 : Array Value} (hw : ∀ d ∈ tables_1, d.before a0 Z = true) {h h' : Heap} {so : Addr} {vs : List Value} (F : own_FL Z h so vs) (i : Nat) {nm d : String} {v : Value} (hi : own_nm[i]? = some (nm, d)) (W : Wr h h' so (Jvm.RoadKit.slotOf Z "com/example/binflow/binflow/solve/SubsetSums" nm d) v) : own_FL Z h' so (vs.set i v) := by
  intro j n' d' v' hj hv
  by_cases q : j = i
  · subst q
    rw [hi] at hj
    cases hj
    have hl : j < vs.length := by have := (List.getElem?_eq_some_iff.mp hv).1; rwa [List.length_set] at this
    rw [List.getElem?_set_self hl] at hv
    cases hv
    exact (F j _ _ _ hi (List.getElem?_eq_getElem hl)).same W
  · rw [List.getElem?_set_ne (fun e => q e.symm)] at hv
    obtain ⟨l1, t1, p1⟩ := own_laid hw i _ _ hi
    obtain ⟨l2, t2, p2⟩ := own_laid hw j _ _ hj
    exact (F j _ _ _ hj hv).other W (Or.inr (slot_ne l2 l1 (own_nm_ne hi hj q) p2 p1))
def own_W (Z : State) (h : Heap) (n0 : Nat) (so rs rt fs bs : Addr) (kr kt kf kb : ClassId) (rl tl fl bl : List Value) (zl : Int32) (fv : List Value) : Prop :=
  Exa Z h so "com/example/binflow/binflow/solve/SubsetSums" ∧ own_FL Z h so fv ∧ Arv Z h rs kr .int 2 rl (.int 0) ∧ Arv Z h rt kt .int 2 tl (.int 0) ∧ Arv Z h fs kf .long zl fl (.long 0) ∧ Arv Z h bs kb .long zl bl (.long 0) ∧
  (n0 ≤ so ∧ n0 ≤ rs ∧ n0 ≤ rt ∧ n0 ≤ fs ∧ n0 ≤ bs ∧ n0 ≤ h.size) ∧ so ≠ rs ∧ so ≠ rt ∧ so ≠ fs ∧ so ≠ bs ∧ rs ≠ rt ∧ rs ≠ fs ∧ rs ≠ bs ∧ rt ≠ fs ∧ rt ≠ bs ∧ fs ≠ bs
section OwnW
variable {Z : State} {a0 : Array Value} {h h' : Heap} {n0 : Nat} {so rs rt fs bs : Addr} {kr kt kf kb : ClassId} {rl tl fl bl : List Value} {zl : Int32} {fv : List Value}
theorem own_W_keep (W : own_W Z h n0 so rs rt fs bs kr kt kf kb rl tl fl bl zl fv) (K : Keep h h' []) : own_W Z h' n0 so rs rt fs bs kr kt kf kb rl tl fl bl zl fv := by
  obtain ⟨E, F, V1, V2, V3, V4, ⟨l1, l2, l3, l4, l5, l6⟩, ne⟩ := W
  exact ⟨E.keep K, fun i n d v a b => (F i n d v a b).keep K nin0, V1.keep K nin0, V2.keep K nin0, V3.keep K nin0, V4.keep K nin0, ⟨l1, l2, l3, l4, l5, Nat.le_trans l6 K.1⟩, ne⟩
theorem own_W_put (hw : ∀ d ∈ tables_1, d.before a0 Z = true) (W : own_W Z h n0 so rs rt fs bs kr kt kf kb rl tl fl bl zl fv) (i : Nat) {nm d : String} {v : Value} (hi : own_nm[i]? = some (nm, d)) (Q : Wr h h' so (Jvm.RoadKit.slotOf Z "com/example/binflow/binflow/solve/SubsetSums" nm d) v) : own_W Z h' n0 so rs rt fs bs kr kt kf kb rl tl fl bl zl (fv.set i v) := by
  obtain ⟨E, F, V1, V2, V3, V4, ⟨l1, l2, l3, l4, l5, l6⟩, n1, n2, n3, n4, ne⟩ := W
  exact ⟨E.wr Q, own_FL_put hw F i hi Q, V1.other Q n1.symm, V2.other Q n2.symm, V3.other Q n3.symm, V4.other Q n4.symm, ⟨l1, l2, l3, l4, l5, by rw [Q.size]; exact l6⟩, n1, n2, n3, n4, ne⟩
theorem own_W_rs {sl : Nat} {v : Value} {rl' : List Value} (W : own_W Z h n0 so rs rt fs bs kr kt kf kb rl tl fl bl zl fv) (Q : Wr h h' rs sl v) (V : Arv Z h' rs kr .int 2 rl' (.int 0)) : own_W Z h' n0 so rs rt fs bs kr kt kf kb rl' tl fl bl zl fv := by
  obtain ⟨E, F, V1, V2, V3, V4, ⟨l1, l2, l3, l4, l5, l6⟩, n1, n2, n3, n4, n5, n6, n7, n8, n9, n10⟩ := W
  exact ⟨E.wr Q, fun i n d v a b => (F i n d v a b).other Q (Or.inl n1), V, V2.other Q n5.symm, V3.other Q n6.symm, V4.other Q n7.symm, ⟨l1, l2, l3, l4, l5, by rw [Q.size]; exact l6⟩, n1, n2, n3, n4, n5, n6, n7, n8, n9, n10⟩
theorem own_W_rt {sl : Nat} {v : Value} {tl' : List Value} (W : own_W Z h n0 so rs rt fs bs kr kt kf kb rl tl fl bl zl fv) (Q : Wr h h' rt sl v) (V : Arv Z h' rt kt .int 2 tl' (.int 0)) : own_W Z h' n0 so rs rt fs bs kr kt kf kb rl tl' fl bl zl fv := by
  obtain ⟨E, F, V1, V2, V3, V4, ⟨l1, l2, l3, l4, l5, l6⟩, n1, n2, n3, n4, n5, n6, n7, n8, n9, n10⟩ := W
  exact ⟨E.wr Q, fun i n d v a b => (F i n d v a b).other Q (Or.inl n2), V1.other Q n5, V, V3.other Q n8.symm, V4.other Q n9.symm, ⟨l1, l2, l3, l4, l5, by rw [Q.size]; exact l6⟩, n1, n2, n3, n4, n5, n6, n7, n8, n9, n10⟩
theorem own_W_fs {sl : Nat} {v : Value} {fl' : List Value} (W : own_W Z h n0 so rs rt fs bs kr kt kf kb rl tl fl bl zl fv) (Q : Wr h h' fs sl v) (V : Arv Z h' fs kf .long zl fl' (.long 0)) : own_W Z h' n0 so rs rt fs bs kr kt kf kb rl tl fl' bl zl fv := by
  obtain ⟨E, F, V1, V2, V3, V4, ⟨l1, l2, l3, l4, l5, l6⟩, n1, n2, n3, n4, n5, n6, n7, n8, n9, n10⟩ := W
  exact ⟨E.wr Q, fun i n d v a b => (F i n d v a b).other Q (Or.inl n3), V1.other Q n6, V2.other Q n8, V, V4.other Q n10.symm, ⟨l1, l2, l3, l4, l5, by rw [Q.size]; exact l6⟩, n1, n2, n3, n4, n5, n6, n7, n8, n9, n10⟩
theorem own_W_bs {sl : Nat} {v : Value} {bl' : List Value} (W : own_W Z h n0 so rs rt fs bs kr kt kf kb rl tl fl bl zl fv) (Q : Wr h h' bs sl v) (V : Arv Z h' bs kb .long zl bl' (.long 0)) : own_W Z h' n0 so rs rt fs bs kr kt kf kb rl tl fl bl' zl fv := by
  obtain ⟨E, F, V1, V2, V3, V4, ⟨l1, l2, l3, l4, l5, l6⟩, n1, n2, n3, n4, n5, n6, n7, n8, n9, n10⟩ := W
  exact ⟨E.wr Q, fun i n d v a b => (F i n d v a b).other Q (Or.inl n4), V1.other Q n7, V2.other Q n9, V3.other Q n10, V, ⟨l1, l2, l3, l4, l5, by rw [Q.size]; exact l6⟩, n1, n2, n3, n4, n5, n6, n7, n8, n9, n10⟩
end OwnW
def own_F (A B : Int) (e : Nat) : Nat → Int
  | 0 => 0
  | i + 1 => own_F A B e i + (if i < e then A else B)
def own_L (v : Int) : Int64 := Int64.ofInt v
theorem own_F_mono {A B : Int} {e : Nat} (hA : 0 ≤ A) (hB : 0 ≤ B) {i j : Nat} (h : i ≤ j) : own_F A B e i ≤ own_F A B e j := by
  induction h with
  | refl => exact Int.le_refl _
  | step _ ih => rw [own_F]; split <;> omega
theorem own_F_rng {A B : Int} {e : Nat} (hA : 0 ≤ A) (hB : 0 ≤ B) (hA' : A < 2147483648) (hB' : B < 2147483648) : ∀ i : Nat, 0 ≤ own_F A B e i ∧ own_F A B e i ≤ (i : Int) * 2147483648
  | 0 => by simp [own_F]
  | i + 1 => by
    have ih := own_F_rng (e := e) hA hB hA' hB' i
    rw [own_F]; split <;> omega
theorem own_F_one {A B : Int} {e : Nat} : ∀ i : Nat, i ≤ e → own_F A B e i = A * (i : Int)
  | 0, _ => by simp [own_F]
  | i + 1, h => by
    have ih := own_F_one (A := A) (B := B) (e := e) i (by omega)
    rw [own_F, if_pos (by omega), ih]; push_cast; rw [Int.mul_add, Int.mul_one]
theorem own_L_int (v : Int) (h1 : -9223372036854775808 ≤ v) (h2 : v < 9223372036854775808) : (own_L v).toInt = v := by
  unfold own_L
  rw [Int64.toInt_ofInt]
  have h : v.bmod 18446744073709551616 = v := Int.bmod_eq_of_le (by omega) (by omega)
  exact h
theorem own_L_of (x : Int64) : x = own_L x.toInt := by
  rw [← Int64.toInt_inj, own_L_int _ (rng64 x).1 (rng64 x).2]
theorem own_L_add (a b : Int) : own_L a + own_L b = own_L (a + b) := (Int64.ofInt_add a b).symm
theorem own_L_sub (a b : Int) : own_L a - own_L b = own_L (a - b) := (Int64.ofInt_sub a b).symm
theorem own_L_i2l (x : Int32) : x.toInt64 = own_L x.toInt := by
  have r := rng32 x
  rw [← Int64.toInt_inj, own_L_int _ (by omega) (by omega), c_i2l]
theorem own_ofN (n : Nat) (h : n < 100) : (Int32.ofNat n).toInt = n := len_toInt (n := n) (by omega)
theorem own_lt_N {a b : Nat} (ha : a < 100) (hb : b < 100) : (Int32.ofNat a < Int32.ofNat b) ↔ a < b := by
  rw [Int32.lt_iff_toInt_lt, own_ofN a ha, own_ofN b hb]; omega
theorem own_eq_N {a b : Nat} (ha : a < 100) (hb : b < 100) : (Int32.ofNat a = Int32.ofNat b) ↔ a = b := by
  rw [← Int32.toInt_inj, own_ofN a ha, own_ofN b hb]; omega
theorem own_sub_N {a b : Nat} (h : b ≤ a) (ha : a < 100) : Int32.ofNat a - Int32.ofNat b = Int32.ofNat (a - b) := by
  have e := c_isub (Int32.ofNat a) (Int32.ofNat b)
  have r := rng32 (Int32.ofNat a - Int32.ofNat b)
  rw [own_ofN a ha, own_ofN b (by omega)] at e
  rw [← Int32.toInt_inj, own_ofN (a - b) (by omega)]; omega
theorem own_add_N {a b : Nat} (h : a + b < 100) : Int32.ofNat a + Int32.ofNat b = Int32.ofNat (a + b) := by
  have e := c_iadd (Int32.ofNat a) (Int32.ofNat b)
  have r := rng32 (Int32.ofNat a + Int32.ofNat b)
  rw [own_ofN a (by omega), own_ofN b (by omega)] at e
  rw [← Int32.toInt_inj, own_ofN (a + b) h]; omega
theorem own_add1_N {a : Nat} (h : a < 99) : Int32.ofNat a + (1 : Int32) = Int32.ofNat (a + 1) := own_add_N (a := a) (b := 1) (by omega)
theorem own_dec_N {a : Nat} (h : a < 99) : Int32.ofNat (a + 1) + (-1 : Int32) = Int32.ofNat a := by
  have e := c_iadd (Int32.ofNat (a + 1)) (-1)
  have r := rng32 (Int32.ofNat (a + 1) + (-1))
  have km : (-1 : Int32).toInt = -1 := rfl
  rw [own_ofN (a + 1) (by omega), km] at e
  rw [← Int32.toInt_inj, own_ofN a (by omega)]; omega
theorem own_nat_N {a : Nat} (h : a < 100) : (Int32.ofNat a).toNatClampNeg = a := by
  have := own_nat (Int32.ofNat a) (by rw [own_ofN a h]; omega)
  rw [own_ofN a h] at this; omega
theorem own_in_N {a : Nat} {z : Int32} (h : a < 100) (hz : (a : Int) < z.toInt) : ¬ Int32.ofNat a < 0 ∧ Int32.ofNat a < z := by
  have k0 : (0 : Int32).toInt = 0 := rfl
  simp only [Int32.lt_iff_toInt_lt, own_ofN a h, k0]; omega
def own_Is (A B : Int32) (e N : Nat) (rc : Int32) (rl tl : List Value) (zl : Int32) (sm : Int64) : Prop :=
  0 ≤ A.toInt ∧ 0 ≤ B.toInt ∧ 1 ≤ e ∧ e ≤ N ∧ N ≤ 8 ∧ ((rc = 1 ∧ e = N) ∨ (rc = 2 ∧ e < N)) ∧ rl.getD 0 (.int 0) = .int A ∧ (rc = 2 → rl.getD 1 (.int 0) = .int B) ∧ tl.getD 0 (.int 0) = .int 0 ∧ (rc = 2 → tl.getD 1 (.int 0) = .int (Int32.ofNat e)) ∧ (N : Int) < zl.toInt ∧ zl.toInt ≤ 16 ∧ sm = own_L (own_F A.toInt B.toInt e N) ∧ rl.length = 2 ∧ tl.length = 2
def own_If (A B : Int32) (e N : Nat) (zl : Int32) (fl : List Value) (fc : Nat) (fr : Int32) : Prop :=
  fc ≤ N ∧ ((fr = 0 ∧ fc ≤ e) ∨ (fr = 1 ∧ e < fc)) ∧ fl.length = zl.toNatClampNeg ∧ ∀ i, i ≤ fc → fl.getD i (.long 0) = .long (own_L (own_F A.toInt B.toInt e i))
def own_Ib (A B : Int32) (e N : Nat) (rc zl : Int32) (bl : List Value) (bc : Nat) (br : Int32) : Prop :=
  bc ≤ N ∧ ((rc = 1 ∧ br = 0) ∨ (rc = 2 ∧ ((br = 1 ∧ bc ≤ N - e) ∨ (br = 0 ∧ N - e < bc)))) ∧ bl.length = zl.toNatClampNeg ∧ ∀ i, i ≤ bc → bl.getD i (.long 0) = .long (own_L (own_F A.toInt B.toInt e N - own_F A.toInt B.toInt e (N - i)))
def own_Sx (Z : State) (h : Heap) (n0 : Nat) (so : Addr) (A B : Int32) (e N : Nat) (rc lo : Int32) (ga : Int64) (fc bc : Nat) : Prop :=
  ∃ (rs rt fs bs : Addr) (kr kt kf kb : ClassId) (rl tl fl bl : List Value) (zl fr br los : Int32) (sm gb : Int64), own_W Z h n0 so rs rt fs bs kr kt kf kb rl tl fl bl zl [.ref rs, .ref rt, .int rc, .int (Int32.ofNat N), .long sm, .ref fs, .int (Int32.ofNat fc), .int fr, .ref bs, .int (Int32.ofNat bc), .int br, .int los, .int lo, .long gb, .long ga] ∧
    own_Is A B e N rc rl tl zl sm ∧ own_If A B e N zl fl fc fr ∧ own_Ib A B e N rc zl bl bc br
def own_Sg (Z : State) (h : Heap) (n0 : Nat) (so : Addr) (A B : Int32) (e N : Nat) (rc lo : Int32) (ga : Int64) : Prop := ∃ fc bc, own_Sx Z h n0 so A B e N rc lo ga fc bc
theorem own_pn0 : plainFor (⟨"java/lang/Math", "max", "(II)I"⟩ : MethodName) = true := by first | exact plainFor_of_name (by first | (simp [plainName, overriddenIn]; done) | decide +kernel) | decide +kernel
theorem own_pd0 : parseMethodDescriptor "(II)I" = some ⟨[.int, .int], some .int⟩ := by decide +kernel
theorem dmx_0 : decode jdk_29_method_65_code 0 = .ok (.iload_n 0, 1) := by decide +kernel
theorem dmx_1 : decode jdk_29_method_65_code 1 = .ok (.iload_n 1, 1) := by decide +kernel
theorem dmx_2 : decode jdk_29_method_65_code 2 = .ok (.if_icmp .lt 7, 3) := by decide +kernel
theorem dmx_5 : decode jdk_29_method_65_code 5 = .ok (.iload_n 0, 1) := by decide +kernel
theorem dmx_6 : decode jdk_29_method_65_code 6 = .ok (.goto 4, 3) := by decide +kernel
theorem dmx_9 : decode jdk_29_method_65_code 9 = .ok (.iload_n 1, 1) := by decide +kernel
theorem dmx_10 : decode jdk_29_method_65_code 10 = .ok (.ireturn, 1) := by decide +kernel
theorem own_ef1 (m : MethodId) (x0 : Int32) (x1 : Int32) : entryFrame m #[(.int x0), (.int x1)] 2 = mkF m 0 #[.val (.int x0), .val (.int x1)] [] := by first | (simp [entryFrame, mkF, argsToLocals, Value.category, maxLocals]; done) | rfl
def Qrmmx (Z : State) (p1 : Int32) (p2 : Int32)  (h0 : Heap) (n0 : Nat) : Option Value → Heap → List Loc → Prop := fun v h L => v = some (.int (own_max p1 p2)) ∧ Fr n0 L ∧ h = h0
set_option maxRecDepth 65536 in
set_option maxHeartbeats 40000000 in
theorem rmmx (l : Launch) (Z : State) (a0 : Array Value) (hw : ∀ d ∈ tables_1, d.before a0 Z = true) (ws : List Jvm.Cond) (p1 : Int32) (p2 : Int32)  (h0 : Heap) (n0 : Nat) (Z0 : n0 ≤ h0.size)  :
    MetFree l (⟨"java/lang/Math", "max", "(II)I"⟩ : MethodName) (head1 (Jvm.Cond.code (⟨"java/lang/Math", "max", "(II)I"⟩ : MethodName) jdk_29_method_65_code 2 (some .int) :: ws) ({ frames := 0, cells := 0, slots := 0, locals := 0 } : Room)) (fun a U => a = #[(.int p1), (.int p2)] ∧ Z.Warmed39 U.vm ∧ U.heap = h0) (fun _ _ _ _ _ => True) (fun _ U o U' => ∃ v L, o = .returned v ∧ (Qrmmx Z p1 p2  h0 n0) v U'.heap L ∧ FrameEnd U o U' L ({ frames := 0, cells := 0, slots := 0, locals := 0 } : Room).cells ({ frames := 0, cells := 0, slots := 0, locals := 0 } : Room).slots) := by
  refine MetFree.of_bodySF own_pn0 hisR ?_
  intro p ev s m args below meth c s₁ Bd hml0 hP hK
  obtain ⟨rfl, hZ, hh⟩ := hP
  have hx := Bd.exec
  have hby := Bd.bytes
  have hlk := Bd.notSynchronized
  have hml : c.maxLocals = 2 := hml0
  have hown : s.vm.findClass "java/lang/Math" = some m.cls := findClass_of_methodNamed Bd.named
  have hnm := (name_of_methodNamed Bd.named Bd.method).1
  have X0 : Stand p l ev ({ frames := 0, cells := 0, slots := 0, locals := 0 } : Room) s m #[(.int p1), (.int p2)] below meth c s₁ [] 0 0 := Stand.of_body Bd
  have e0 : s₁.heap = h0 := by rw [← hh, Bd.state]; rfl
  have N0 := Fr.nil n0
  refine Rch.entry (G := (EndQ (Qrmmx Z p1 p2  h0 n0) s ({ frames := 0, cells := 0, slots := 0, locals := 0 } : Room).cells ({ frames := 0, cells := 0, slots := 0, locals := 0 } : Room).slots)) (own_ef1 m p1 p2) ?_
  show Rch p ev below _ s₁ (mkF m 0 #[.val (.int p1), .val (.int p2)] [])
  refine Rch.go (fun _ q => XS.iloadN X0.here hx rfl (hb hby dmx_0) rfl  q) ?_
  show Rch p ev below _ s₁ (mkF m 1 #[.val (.int p1), .val (.int p2)] [(.int p1)])
  refine Rch.go (fun _ q => XS.iloadN X0.here hx rfl (hb hby dmx_1) rfl  q) ?_
  show Rch p ev below _ s₁ (mkF m 2 #[.val (.int p1), .val (.int p2)] [(.int p2), (.int p1)])
  by_cases hc2 : p1 < p2
  · skip
    refine Rch.go (fun _ q => XS.icmpYes X0.here hx rfl (pc0 := 2) (pc' := 9) rfl (hb hby dmx_2) rfl (tlt hc2).1 (by decide) (by decide) q) ?_
    show Rch p ev below _ s₁ (mkF m 9 #[.val (.int p1), .val (.int p2)] [])
    refine Rch.go (fun _ q => XS.iloadN X0.here hx rfl (hb hby dmx_9) rfl  q) ?_
    show Rch p ev below _ s₁ (mkF m 10 #[.val (.int p1), .val (.int p2)] [(.int p2)])
    refine Rch.retI X0 hx hlk Bd.returns (hb hby dmx_10) (by decide) (by decide) ?_
    unfold Qrmmx
    exact ⟨by simp only [own_max, hc2, if_true, if_false], N0, e0⟩
  · skip
    refine Rch.go (fun _ q => XS.icmpNo X0.here hx rfl (hb hby dmx_2) rfl (flt hc2).1 q) ?_
    show Rch p ev below _ s₁ (mkF m 5 #[.val (.int p1), .val (.int p2)] [])
    refine Rch.go (fun _ q => XS.iloadN X0.here hx rfl (hb hby dmx_5) rfl  q) ?_
    show Rch p ev below _ s₁ (mkF m 6 #[.val (.int p1), .val (.int p2)] [(.int p1)])
    refine Rch.go (fun _ q => XS.goto X0.here hx rfl (pc0 := 6) (pc' := 10) rfl (hb hby dmx_6) (by decide) (by decide) q) ?_
    show Rch p ev below _ s₁ (mkF m 10 #[.val (.int p1), .val (.int p2)] [(.int p1)])
    refine Rch.retI X0 hx hlk Bd.returns (hb hby dmx_10) (by decide) (by decide) ?_
    unfold Qrmmx
    exact ⟨by simp only [own_max, hc2, if_true, if_false], N0, e0⟩
theorem own_pn1 : plainFor (⟨"java/lang/Math", "min", "(II)I"⟩ : MethodName) = true := by first | exact plainFor_of_name (by first | (simp [plainName, overriddenIn]; done) | decide +kernel) | decide +kernel
theorem dmn_0 : decode jdk_29_method_69_code 0 = .ok (.iload_n 0, 1) := by decide +kernel
theorem dmn_1 : decode jdk_29_method_69_code 1 = .ok (.iload_n 1, 1) := by decide +kernel
theorem dmn_2 : decode jdk_29_method_69_code 2 = .ok (.if_icmp .gt 7, 3) := by decide +kernel
theorem dmn_5 : decode jdk_29_method_69_code 5 = .ok (.iload_n 0, 1) := by decide +kernel
theorem dmn_6 : decode jdk_29_method_69_code 6 = .ok (.goto 4, 3) := by decide +kernel
theorem dmn_9 : decode jdk_29_method_69_code 9 = .ok (.iload_n 1, 1) := by decide +kernel
theorem dmn_10 : decode jdk_29_method_69_code 10 = .ok (.ireturn, 1) := by decide +kernel
theorem own_ef2 (m : MethodId) (x0 : Int32) (x1 : Int32) : entryFrame m #[(.int x0), (.int x1)] 2 = mkF m 0 #[.val (.int x0), .val (.int x1)] [] := by first | (simp [entryFrame, mkF, argsToLocals, Value.category, maxLocals]; done) | rfl
def Qrmmn (Z : State) (p1 : Int32) (p2 : Int32)  (h0 : Heap) (n0 : Nat) : Option Value → Heap → List Loc → Prop := fun v h L => v = some (.int (own_min p1 p2)) ∧ Fr n0 L ∧ h = h0
set_option maxRecDepth 65536 in
set_option maxHeartbeats 40000000 in
theorem rmmn (l : Launch) (Z : State) (a0 : Array Value) (hw : ∀ d ∈ tables_1, d.before a0 Z = true) (ws : List Jvm.Cond) (p1 : Int32) (p2 : Int32)  (h0 : Heap) (n0 : Nat) (Z0 : n0 ≤ h0.size)  :
    MetFree l (⟨"java/lang/Math", "min", "(II)I"⟩ : MethodName) (head1 (Jvm.Cond.code (⟨"java/lang/Math", "min", "(II)I"⟩ : MethodName) jdk_29_method_69_code 2 (some .int) :: ws) ({ frames := 0, cells := 0, slots := 0, locals := 0 } : Room)) (fun a U => a = #[(.int p1), (.int p2)] ∧ Z.Warmed39 U.vm ∧ U.heap = h0) (fun _ _ _ _ _ => True) (fun _ U o U' => ∃ v L, o = .returned v ∧ (Qrmmn Z p1 p2  h0 n0) v U'.heap L ∧ FrameEnd U o U' L ({ frames := 0, cells := 0, slots := 0, locals := 0 } : Room).cells ({ frames := 0, cells := 0, slots := 0, locals := 0 } : Room).slots) := by
  refine MetFree.of_bodySF own_pn1 hisR ?_
  intro p ev s m args below meth c s₁ Bd hml0 hP hK
  obtain ⟨rfl, hZ, hh⟩ := hP
  have hx := Bd.exec
  have hby := Bd.bytes
  have hlk := Bd.notSynchronized
  have hml : c.maxLocals = 2 := hml0
  have hown : s.vm.findClass "java/lang/Math" = some m.cls := findClass_of_methodNamed Bd.named
  have hnm := (name_of_methodNamed Bd.named Bd.method).1
  have X0 : Stand p l ev ({ frames := 0, cells := 0, slots := 0, locals := 0 } : Room) s m #[(.int p1), (.int p2)] below meth c s₁ [] 0 0 := Stand.of_body Bd
  have e0 : s₁.heap = h0 := by rw [← hh, Bd.state]; rfl
  have N0 := Fr.nil n0
  refine Rch.entry (G := (EndQ (Qrmmn Z p1 p2  h0 n0) s ({ frames := 0, cells := 0, slots := 0, locals := 0 } : Room).cells ({ frames := 0, cells := 0, slots := 0, locals := 0 } : Room).slots)) (own_ef2 m p1 p2) ?_
  show Rch p ev below _ s₁ (mkF m 0 #[.val (.int p1), .val (.int p2)] [])
  refine Rch.go (fun _ q => XS.iloadN X0.here hx rfl (hb hby dmn_0) rfl  q) ?_
  show Rch p ev below _ s₁ (mkF m 1 #[.val (.int p1), .val (.int p2)] [(.int p1)])
  refine Rch.go (fun _ q => XS.iloadN X0.here hx rfl (hb hby dmn_1) rfl  q) ?_
  show Rch p ev below _ s₁ (mkF m 2 #[.val (.int p1), .val (.int p2)] [(.int p2), (.int p1)])
  by_cases hc2 : p2 < p1
  · skip
    refine Rch.go (fun _ q => XS.icmpYes X0.here hx rfl (pc0 := 2) (pc' := 9) rfl (hb hby dmn_2) rfl (tlt hc2).2.2.1 (by decide) (by decide) q) ?_
    show Rch p ev below _ s₁ (mkF m 9 #[.val (.int p1), .val (.int p2)] [])
    refine Rch.go (fun _ q => XS.iloadN X0.here hx rfl (hb hby dmn_9) rfl  q) ?_
    show Rch p ev below _ s₁ (mkF m 10 #[.val (.int p1), .val (.int p2)] [(.int p2)])
    refine Rch.retI X0 hx hlk Bd.returns (hb hby dmn_10) (by decide) (by decide) ?_
    unfold Qrmmn
    exact ⟨by simp only [own_min, hc2, if_true, if_false], N0, e0⟩
  · skip
    refine Rch.go (fun _ q => XS.icmpNo X0.here hx rfl (hb hby dmn_2) rfl (flt hc2).2.2.1 q) ?_
    show Rch p ev below _ s₁ (mkF m 5 #[.val (.int p1), .val (.int p2)] [])
    refine Rch.go (fun _ q => XS.iloadN X0.here hx rfl (hb hby dmn_5) rfl  q) ?_
    show Rch p ev below _ s₁ (mkF m 6 #[.val (.int p1), .val (.int p2)] [(.int p1)])
    refine Rch.go (fun _ q => XS.goto X0.here hx rfl (pc0 := 6) (pc' := 10) rfl (hb hby dmn_6) (by decide) (by decide) q) ?_
    show Rch p ev below _ s₁ (mkF m 10 #[.val (.int p1), .val (.int p2)] [(.int p1)])
    refine Rch.retI X0 hx hlk Bd.returns (hb hby dmn_10) (by decide) (by decide) ?_
    unfold Qrmmn
    exact ⟨by simp only [own_min, hc2, if_true, if_false], N0, e0⟩
theorem own_pn2 : plainFor (⟨"java/util/Arrays", "copyOf", "([JI)[J"⟩ : MethodName) = true := by first | exact plainFor_of_name (by first | (simp [plainName, overriddenIn]; done) | decide +kernel) | decide +kernel
theorem own_pd1 : parseMethodDescriptor "([JI)[J" = some ⟨[(.array .long), .int], some (.array .long)⟩ := by decide +kernel
theorem dcp_0 : decode jdk_65_method_124_code 0 = .ok (.iload_n 1, 1) := by decide +kernel
theorem dcp_1 : decode jdk_65_method_124_code 1 = .ok (.aload_n 0, 1) := by decide +kernel
theorem dcp_2 : decode jdk_65_method_124_code 2 = .ok (.arraylength, 1) := by decide +kernel
theorem dcp_3 : decode jdk_65_method_124_code 3 = .ok (.if_icmp .ne 11, 3) := by decide +kernel
theorem dcp_6 : decode jdk_65_method_124_code 6 = .ok (.aload_n 0, 1) := by decide +kernel
theorem dcp_7 : decode jdk_65_method_124_code 7 = .ok (.invokevirtual 319, 3) := by decide +kernel
theorem dcp_10 : decode jdk_65_method_124_code 10 = .ok (.checkcast 320, 3) := by decide +kernel
theorem dcp_13 : decode jdk_65_method_124_code 13 = .ok (.areturn, 1) := by decide +kernel
theorem dcp_14 : decode jdk_65_method_124_code 14 = .ok (.iload_n 1, 1) := by decide +kernel
theorem dcp_15 : decode jdk_65_method_124_code 15 = .ok (.newarray .long, 2) := by decide +kernel
theorem dcp_17 : decode jdk_65_method_124_code 17 = .ok (.astore_n 2, 1) := by decide +kernel
theorem dcp_18 : decode jdk_65_method_124_code 18 = .ok (.aload_n 0, 1) := by decide +kernel
theorem dcp_19 : decode jdk_65_method_124_code 19 = .ok (.iconst 0, 1) := by decide +kernel
theorem dcp_20 : decode jdk_65_method_124_code 20 = .ok (.aload_n 2, 1) := by decide +kernel
theorem dcp_21 : decode jdk_65_method_124_code 21 = .ok (.iconst 0, 1) := by decide +kernel
theorem dcp_22 : decode jdk_65_method_124_code 22 = .ok (.aload_n 0, 1) := by decide +kernel
theorem dcp_23 : decode jdk_65_method_124_code 23 = .ok (.arraylength, 1) := by decide +kernel
theorem dcp_24 : decode jdk_65_method_124_code 24 = .ok (.iload_n 1, 1) := by decide +kernel
theorem dcp_25 : decode jdk_65_method_124_code 25 = .ok (.invokestatic 304, 3) := by decide +kernel
theorem dcp_28 : decode jdk_65_method_124_code 28 = .ok (.invokestatic 150, 3) := by decide +kernel
theorem dcp_31 : decode jdk_65_method_124_code 31 = .ok (.aload_n 2, 1) := by decide +kernel
theorem dcp_32 : decode jdk_65_method_124_code 32 = .ok (.areturn, 1) := by decide +kernel
theorem own_ef3 (m : MethodId) (x0 : Addr) (x1 : Int32) : entryFrame m #[(.ref x0), (.int x1)] 3 = mkF m 0 #[.val (.ref x0), .val (.int x1), .unset] [] := by first | (simp [entryFrame, mkF, argsToLocals, Value.category, maxLocals]; done) | rfl
def Qrmcp (Z : State) (a1 : Addr) (p2 : Int32) (k1 : ClassId) (zz : Int32) (vs : List Value) (h0 : Heap) (n0 : Nat) : Option Value → Heap → List Loc → Prop := fun v h L => ∃ (b : Addr) (kb : ClassId) (us : List Value), v = some (.ref b) ∧ Fr n0 L ∧ n0 ≤ b ∧ h0.size ≤ b ∧ n0 ≤ h.size ∧ Keep h0 h [] ∧ Arv Z h b kb .long p2 us (.long 0) ∧ us.length = p2.toNatClampNeg ∧ (∀ i, us.getD i (.long 0) = vs.getD i (.long 0))
set_option maxRecDepth 65536 in
set_option maxHeartbeats 40000000 in
theorem rmcp (l : Launch) (Z : State) (a0 : Array Value) (hw : ∀ d ∈ tables_1, d.before a0 Z = true) (ws : List Jvm.Cond) (a1 : Addr) (p2 : Int32) (k1 : ClassId) (zz : Int32) (vs : List Value) (h0 : Heap) (n0 : Nat) (Z0 : n0 ≤ h0.size) (V1 : Arv Z h0 a1 k1 .long zz vs (.long 0)) (hl1 : vs.length = zz.toNatClampNeg) (hz0 : 0 ≤ zz.toInt) (hzp : zz.toInt < p2.toInt) (hp5 : p2.toInt ≤ 16) :
    MetFree l (⟨"java/util/Arrays", "copyOf", "([JI)[J"⟩ : MethodName) (head1 (Jvm.Cond.code (⟨"java/util/Arrays", "copyOf", "([JI)[J"⟩ : MethodName) jdk_65_method_124_code 3 (some (.array .long)) :: ws) ({ frames := 1, cells := 1, slots := 16, locals := 32 } : Room)) (fun a U => a = #[(.ref a1), (.int p2)] ∧ Z.Warmed39 U.vm ∧ U.heap = h0) (fun _ _ _ _ _ => True) (fun _ U o U' => ∃ v L, o = .returned v ∧ (Qrmcp Z a1 p2 k1 zz vs h0 n0) v U'.heap L ∧ FrameEnd U o U' L ({ frames := 1, cells := 1, slots := 16, locals := 32 } : Room).cells ({ frames := 1, cells := 1, slots := 16, locals := 32 } : Room).slots) := by
  refine MetFree.of_bodySF own_pn2 hisR ?_
  intro p ev s m args below meth c s₁ Bd hml0 hP hK
  obtain ⟨rfl, hZ, hh⟩ := hP
  have hx := Bd.exec
  have hby := Bd.bytes
  have hlk := Bd.notSynchronized
  have hml : c.maxLocals = 3 := hml0
  have hown : s.vm.findClass "java/util/Arrays" = some m.cls := findClass_of_methodNamed Bd.named
  have hnm := (name_of_methodNamed Bd.named Bd.method).1
  have X0 : Stand p l ev ({ frames := 1, cells := 1, slots := 16, locals := 32 } : Room) s m #[(.ref a1), (.int p2)] below meth c s₁ [] 0 0 := Stand.of_body Bd
  have e0 : s₁.heap = h0 := by rw [← hh, Bd.state]; rfl
  have N0 := Fr.nil n0
  refine Rch.entry (G := (EndQ (Qrmcp Z a1 p2 k1 zz vs h0 n0) s ({ frames := 1, cells := 1, slots := 16, locals := 32 } : Room).cells ({ frames := 1, cells := 1, slots := 16, locals := 32 } : Room).slots)) (own_ef3 m a1 p2) ?_
  show Rch p ev below _ s₁ (mkF m 0 #[.val (.ref a1), .val (.int p2), .unset] [])
  have k0 : (0 : Int32).toInt = 0 := rfl
  have hne : ¬ p2 = zz := fun q => by rw [q] at hzp; omega
  have hnn : ¬ p2 < 0 := by rw [Int32.lt_iff_toInt_lt, k0]; omega
  have hzn : ¬ zz < 0 := by rw [Int32.lt_iff_toInt_lt, k0]; omega
  have nz := own_nat zz hz0
  have np := own_nat p2 (by omega)
  refine Rch.go (fun _ q => XS.iloadN X0.here hx rfl (hb hby dcp_0) rfl  q) ?_
  show Rch p ev below _ s₁ (mkF m 1 #[.val (.ref a1), .val (.int p2), .unset] [(.int p2)])
  refine Rch.go (fun _ q => XS.aloadN X0.here hx rfl (hb hby dcp_1) rfl rfl q) ?_
  show Rch p ev below _ s₁ (mkF m 2 #[.val (.ref a1), .val (.int p2), .unset] [(.ref a1), (.int p2)])
  refine Rch.go (fun _ q => lenA X0 hx hZ e0 V1 (g := (mkF m 2 #[.val (.ref a1), .val (.int p2), .unset] [(.ref a1), (.int p2)])) rfl rfl (hb hby dcp_2) _ q) ?_
  show Rch p ev below _ s₁ (mkF m 3 #[.val (.ref a1), .val (.int p2), .unset] [(.int zz), (.int p2)])
  refine Rch.go (fun _ q => XS.icmpYes X0.here hx rfl (pc0 := 3) (pc' := 14) rfl (hb hby dcp_3) rfl (feq hne).2 (by decide) (by decide) q) ?_
  show Rch p ev below _ s₁ (mkF m 14 #[.val (.ref a1), .val (.int p2), .unset] [])
  refine Rch.go (fun _ q => XS.iloadN X0.here hx rfl (hb hby dcp_14) rfl  q) ?_
  show Rch p ev below _ s₁ (mkF m 15 #[.val (.ref a1), .val (.int p2), .unset] [(.int p2)])
  obtain ⟨T101, h101, kk_bb, X101, e101, E101, V101, st101⟩ := naw X0 hx hZ (hw _ (List.mem_of_getElem? (i := 16) rfl)) e0 (g := (mkF m 15 #[.val (.ref a1), .val (.int p2), .unset] [(.int p2)])) rfl (hb hby dcp_15) rfl hnn p2.toNatClampNeg (cap := 16) (by omega) (by decide) (by decide) (by decide)
  obtain ⟨bb, g101⟩ : ∃ q, q = Array.size h0 := ⟨_, rfl⟩
  rw [← g101] at V101 st101
  have V_bb_101 : Arv Z h101 bb kk_bb .long p2 (List.replicate p2.toNatClampNeg (.long 0)) (.long 0) := V101
  have le_bb : n0 ≤ bb := by rw [g101]; exact Z0
  have Z101 : n0 ≤ h101.size := Nat.le_trans Z0 E101.1
  refine Rch.go st101 ?_
  show Rch p ev below _ T101 (mkF m 17 #[.val (.ref a1), .val (.int p2), .unset] [(.ref bb)])
  have V1_101 := V1.ext E101
  refine Rch.go (fun _ q => XS.astoreN X101.here hx rfl (hb hby dcp_17) rfl rfl (l' := #[.val (.ref a1), .val (.int p2), .val (.ref bb)]) rfl q) ?_
  show Rch p ev below _ T101 (mkF m 18 #[.val (.ref a1), .val (.int p2), .val (.ref bb)] [])
  refine Rch.go (fun _ q => XS.aloadN X101.here hx rfl (hb hby dcp_18) rfl rfl q) ?_
  show Rch p ev below _ T101 (mkF m 19 #[.val (.ref a1), .val (.int p2), .val (.ref bb)] [(.ref a1)])
  refine Rch.go (fun _ q => XS.iconst X101.here hx rfl (hb hby dcp_19) q) ?_
  show Rch p ev below _ T101 (mkF m 20 #[.val (.ref a1), .val (.int p2), .val (.ref bb)] [(.int (0 : Int32)), (.ref a1)])
  refine Rch.go (fun _ q => XS.aloadN X101.here hx rfl (hb hby dcp_20) rfl rfl q) ?_
  show Rch p ev below _ T101 (mkF m 21 #[.val (.ref a1), .val (.int p2), .val (.ref bb)] [(.ref bb), (.int (0 : Int32)), (.ref a1)])
  refine Rch.go (fun _ q => XS.iconst X101.here hx rfl (hb hby dcp_21) q) ?_
  show Rch p ev below _ T101 (mkF m 22 #[.val (.ref a1), .val (.int p2), .val (.ref bb)] [(.int (0 : Int32)), (.ref bb), (.int (0 : Int32)), (.ref a1)])
  refine Rch.go (fun _ q => XS.aloadN X101.here hx rfl (hb hby dcp_22) rfl rfl q) ?_
  show Rch p ev below _ T101 (mkF m 23 #[.val (.ref a1), .val (.int p2), .val (.ref bb)] [(.ref a1), (.int (0 : Int32)), (.ref bb), (.int (0 : Int32)), (.ref a1)])
  refine Rch.go (fun _ q => lenA X101 hx hZ e101 V1_101 (g := (mkF m 23 #[.val (.ref a1), .val (.int p2), .val (.ref bb)] [(.ref a1), (.int (0 : Int32)), (.ref bb), (.int (0 : Int32)), (.ref a1)])) rfl rfl (hb hby dcp_23) _ q) ?_
  show Rch p ev below _ T101 (mkF m 24 #[.val (.ref a1), .val (.int p2), .val (.ref bb)] [(.int zz), (.int (0 : Int32)), (.ref bb), (.int (0 : Int32)), (.ref a1)])
  refine Rch.go (fun _ q => XS.iloadN X101.here hx rfl (hb hby dcp_24) rfl  q) ?_
  show Rch p ev below _ T101 (mkF m 25 #[.val (.ref a1), .val (.int p2), .val (.ref bb)] [(.int p2), (.int zz), (.int (0 : Int32)), (.ref bb), (.int (0 : Int32)), (.ref a1)])
  obtain ⟨_, _, ⟨T102, L102, k102, n102⟩, -, X102, ⟨Lc102, hQ102, l102, y102, z102⟩, st102⟩ := Jvm.LawKit.callS X101 hx (y := (⟨"java/lang/Math", "min", "(II)I"⟩ : MethodName)) hown (mvT hZ (hw _ (List.mem_of_getElem? (i := 48) rfl))) (mvT hZ (hw _ (List.mem_of_getElem? (i := 2) rfl))) (mvT hZ (hw _ (List.mem_of_getElem? (i := 3) rfl))) (mvT hZ (hw _ (List.mem_of_getElem? (i := 4) rfl))) (by decide) (backOf (W := 4) (rmmn l Z a0 hw [] zz p2 h101 n0 Z101) hZ (hw _ (List.mem_of_getElem? (i := 4) rfl)) (hw _ (List.mem_of_getElem? (i := 3) rfl)) (by decide) (by decide)) (g := (mkF m 25 #[.val (.ref a1), .val (.int p2), .val (.ref bb)] [(.int p2), (.int zz), (.int (0 : Int32)), (.ref bb), (.int (0 : Int32)), (.ref a1)])) rfl (by rw [hml]; rfl) (argsL := [(.int zz), (.int p2)]) (rest := [(.int (0 : Int32)), (.ref bb), (.int (0 : Int32)), (.ref a1)]) (lenOf own_pd0 rfl) rfl (by show 2 * 0 + _ ≤ _; exact Nat.le_of_eq rfl) (hb hby dcp_25) (fun _ _ => ⟨rfl, e101, (by decide : 1 + 0 ≤ _), (by decide : 16 + 0 ≤ _)⟩)
  dsimp only [Pt.U, Pt.locs, Pt.cells, Pt.slots] at X102 l102 y102 z102 st102 hQ102
  subst l102 y102 z102
  obtain ⟨rfl, Nc, ec⟩ := hQ102
  refine Rch.go st102 ?_
  show Rch p ev below _ T102 (mkF m 28 #[.val (.ref a1), .val (.int p2), .val (.ref bb)] [(.int (own_min zz p2)), (.int (0 : Int32)), (.ref bb), (.int (0 : Int32)), (.ref a1)])
  have N102 := Fr.app N0 Nc
  have e102 := ec
  have hmn : own_min zz p2 = zz := by unfold own_min; rw [if_neg]; rw [Int32.lt_iff_toInt_lt]; omega
  rw [hmn]
  show Rch p ev below _ T102 (mkF m 28 #[.val (.ref a1), .val (.int p2), .val (.ref bb)] [(.int zz), (.int (0 : Int32)), (.ref bb), (.int (0 : Int32)), (.ref a1)])
  obtain ⟨T103, h103, L103, X103, e103, N103, K103, V103, st103⟩ := cpA X102 hx hZ hown (hw _ (List.mem_of_getElem? (i := 49) rfl)) (hw _ (List.mem_of_getElem? (i := 52) rfl)) (hw _ (List.mem_of_getElem? (i := 50) rfl)) (hw _ (List.mem_of_getElem? (i := 51) rfl)) e102 V1_101 V_bb_101 (Or.inl ⟨rfl, rfl⟩) (sp := 0) (dp := 0) (nn := zz) (by decide) (by decide) hzn (Nat.le_of_eq (Nat.zero_add _)) (by show 0 + _ ≤ _; omega) rfl (by rw [List.length_replicate]; show 0 + _ ≤ _; omega) N102 le_bb (g := (mkF m 28 #[.val (.ref a1), .val (.int p2), .val (.ref bb)] [(.int zz), (.int (0 : Int32)), (.ref bb), (.int (0 : Int32)), (.ref a1)])) rfl (by rw [hml]; rfl) rfl (hb hby dcp_28) (by decide) (W := 0) (by show 2 * 0 + _ ≤ _; exact Nat.le_of_eq rfl) (by decide)
  have V_bb_103 : Arv Z h103 bb kk_bb .long p2 ((List.replicate p2.toNatClampNeg (Value.long 0)).take 0 ++ ((List.range zz.toNatClampNeg).map fun i => vs.getD (0 + i) (.long 0)) ++ (List.replicate p2.toNatClampNeg (Value.long 0)).drop (0 + zz.toNatClampNeg)) (.long 0) := V103
  have KK : Keep h0 h103 [] := ((Keep.refl h0 []).ext E101).trans K103 (fun x hx => Or.inr (by rw [List.mem_singleton.mp hx, g101]; exact Nat.le_refl _))
  have Z103 : n0 ≤ h103.size := Nat.le_trans Z0 KK.1
  refine Rch.go st103 ?_
  show Rch p ev below _ T103 (mkF m 31 #[.val (.ref a1), .val (.int p2), .val (.ref bb)] [])
  refine Rch.go (fun _ q => XS.aloadN X103.here hx rfl (hb hby dcp_31) rfl rfl q) ?_
  show Rch p ev below _ T103 (mkF m 32 #[.val (.ref a1), .val (.int p2), .val (.ref bb)] [(.ref bb)])
  refine Rch.retA X103 hx hlk rfl rfl Bd.returns (hb hby dcp_32) (by decide) (by decide) ?_
  unfold Qrmcp
  rw [e103]
  exact ⟨bb, kk_bb, _, rfl, N103, le_bb, by rw [g101]; exact Nat.le_refl _, Z103, KK, V_bb_103, own_copy_len vs _ _ hl1 (by omega), fun i => own_copy vs _ _ i hl1 (by omega)⟩
theorem own_pn3 : plainFor (⟨"com/example/binflow/binflow/solve/SubsetSums", "end", "(I)I"⟩ : MethodName) = true := by first | exact plainFor_of_name (by first | (simp [plainName, overriddenIn]; done) | decide +kernel) | decide +kernel
theorem own_pd2 : parseMethodDescriptor "(I)I" = some ⟨[.int], some .int⟩ := by decide +kernel
theorem den_0 : decode prog_23_method_16_code 0 = .ok (.iload_n 1, 1) := by decide +kernel
theorem den_1 : decode prog_23_method_16_code 1 = .ok (.iconst 1, 1) := by decide +kernel
theorem den_2 : decode prog_23_method_16_code 2 = .ok (.iadd, 1) := by decide +kernel
theorem den_3 : decode prog_23_method_16_code 3 = .ok (.aload_n 0, 1) := by decide +kernel
theorem den_4 : decode prog_23_method_16_code 4 = .ok (.getfield 23, 3) := by decide +kernel
theorem den_7 : decode prog_23_method_16_code 7 = .ok (.if_icmp .ge 14, 3) := by decide +kernel
theorem den_10 : decode prog_23_method_16_code 10 = .ok (.aload_n 0, 1) := by decide +kernel
theorem den_11 : decode prog_23_method_16_code 11 = .ok (.getfield 20, 3) := by decide +kernel
theorem den_14 : decode prog_23_method_16_code 14 = .ok (.iload_n 1, 1) := by decide +kernel
theorem den_15 : decode prog_23_method_16_code 15 = .ok (.iconst 1, 1) := by decide +kernel
theorem den_16 : decode prog_23_method_16_code 16 = .ok (.iadd, 1) := by decide +kernel
theorem den_17 : decode prog_23_method_16_code 17 = .ok (.iaload, 1) := by decide +kernel
theorem den_18 : decode prog_23_method_16_code 18 = .ok (.goto 7, 3) := by decide +kernel
theorem den_21 : decode prog_23_method_16_code 21 = .ok (.aload_n 0, 1) := by decide +kernel
theorem den_22 : decode prog_23_method_16_code 22 = .ok (.getfield 27, 3) := by decide +kernel
theorem den_25 : decode prog_23_method_16_code 25 = .ok (.ireturn, 1) := by decide +kernel
theorem own_ef4 (m : MethodId) (x0 : Addr) (x1 : Int32) : entryFrame m #[(.ref x0), (.int x1)] 2 = mkF m 0 #[.val (.ref x0), .val (.int x1)] [] := by first | (simp [entryFrame, mkF, argsToLocals, Value.category, maxLocals]; done) | rfl
def Qrmen0 (Z : State) (so : Addr) (rs rt fs bs : Addr) (kr kt kf kb : ClassId) (rl tl fl bl : List Value) (zl fr br los : Int32) (sm gb : Int64) (fc bc : Nat) (A B : Int32) (e N : Nat) (rc lo : Int32) (ga : Int64) (h0 : Heap) (n0 : Nat) : Option Value → Heap → List Loc → Prop := fun v h L => v = some (.int (Int32.ofNat e)) ∧ Fr n0 L ∧ h = h0
set_option maxRecDepth 65536 in
set_option maxHeartbeats 40000000 in
theorem rmen0 (l : Launch) (Z : State) (a0 : Array Value) (hw : ∀ d ∈ tables_1, d.before a0 Z = true) (ws : List Jvm.Cond) (so : Addr) (rs rt fs bs : Addr) (kr kt kf kb : ClassId) (rl tl fl bl : List Value) (zl fr br los : Int32) (sm gb : Int64) (fc bc : Nat) (A B : Int32) (e N : Nat) (rc lo : Int32) (ga : Int64) (h0 : Heap) (n0 : Nat) (Z0 : n0 ≤ h0.size) (WW : own_W Z h0 n0 so rs rt fs bs kr kt kf kb rl tl fl bl zl [(.ref rs), (.ref rt), (.int rc), (.int (Int32.ofNat N)), (.long sm), (.ref fs), (.int (Int32.ofNat fc)), (.int fr), (.ref bs), (.int (Int32.ofNat bc)), (.int br), (.int los), (.int lo), (.long gb), (.long ga)]) (Is : own_Is A B e N rc rl tl zl sm) :
    MetFree l (⟨"com/example/binflow/binflow/solve/SubsetSums", "end", "(I)I"⟩ : MethodName) (head1 (Jvm.Cond.code (⟨"com/example/binflow/binflow/solve/SubsetSums", "end", "(I)I"⟩ : MethodName) prog_23_method_16_code 2 (some .int) :: ws) ({ frames := 0, cells := 0, slots := 0, locals := 0 } : Room)) (fun a U => a = #[(.ref so), (.int (0 : Int32))] ∧ Z.Warmed39 U.vm ∧ U.heap = h0) (fun _ _ _ _ _ => True) (fun _ U o U' => ∃ v L, o = .returned v ∧ (Qrmen0 Z so rs rt fs bs kr kt kf kb rl tl fl bl zl fr br los sm gb fc bc A B e N rc lo ga h0 n0) v U'.heap L ∧ FrameEnd U o U' L ({ frames := 0, cells := 0, slots := 0, locals := 0 } : Room).cells ({ frames := 0, cells := 0, slots := 0, locals := 0 } : Room).slots) := by
  refine MetFree.of_bodySF own_pn3 hisR ?_
  intro p ev s m args below meth c s₁ Bd hml0 hP hK
  obtain ⟨rfl, hZ, hh⟩ := hP
  have hx := Bd.exec
  have hby := Bd.bytes
  have hlk := Bd.notSynchronized
  have hml : c.maxLocals = 2 := hml0
  have hown : s.vm.findClass "com/example/binflow/binflow/solve/SubsetSums" = some m.cls := findClass_of_methodNamed Bd.named
  have hnm := (name_of_methodNamed Bd.named Bd.method).1
  have X0 : Stand p l ev ({ frames := 0, cells := 0, slots := 0, locals := 0 } : Room) s m #[(.ref so), (.int (0 : Int32))] below meth c s₁ [] 0 0 := Stand.of_body Bd
  have e0 : s₁.heap = h0 := by rw [← hh, Bd.state]; rfl
  have N0 := Fr.nil n0
  refine Rch.entry (G := (EndQ (Qrmen0 Z so rs rt fs bs kr kt kf kb rl tl fl bl zl fr br los sm gb fc bc A B e N rc lo ga h0 n0) s ({ frames := 0, cells := 0, slots := 0, locals := 0 } : Room).cells ({ frames := 0, cells := 0, slots := 0, locals := 0 } : Room).slots)) (own_ef4 m so (0 : Int32)) ?_
  show Rch p ev below _ s₁ (mkF m 0 #[.val (.ref so), .val (.int (0 : Int32))] [])
  obtain ⟨hA, hB, he1, heN, hN8, hrc, r0, r1, t0, t1, zN, z16, hsm, hrl2, htl2⟩ := id Is
  refine Rch.go (fun _ q => XS.iloadN X0.here hx rfl (hb hby den_0) rfl  q) ?_
  show Rch p ev below _ s₁ (mkF m 1 #[.val (.ref so), .val (.int (0 : Int32))] [(.int (0 : Int32))])
  refine Rch.go (fun _ q => XS.iconst X0.here hx rfl (hb hby den_1) q) ?_
  show Rch p ev below _ s₁ (mkF m 2 #[.val (.ref so), .val (.int (0 : Int32))] [(.int (1 : Int32)), (.int (0 : Int32))])
  refine Rch.go (fun _ q => XS.iadd X0.here hx rfl (hb hby den_2) rfl q) ?_
  show Rch p ev below _ s₁ (mkF m 3 #[.val (.ref so), .val (.int (0 : Int32))] [(.int ((0 : Int32) + (1 : Int32)))])
  refine Rch.go (fun _ q => XS.aloadN X0.here hx rfl (hb hby den_3) rfl rfl q) ?_
  show Rch p ev below _ s₁ (mkF m 4 #[.val (.ref so), .val (.int (0 : Int32))] [(.ref so), (.int ((0 : Int32) + (1 : Int32)))])
  obtain ⟨T101, X101, e101, st101⟩ := getF X0 hx hZ hown (host := "") (Or.inl (hw _ (List.mem_of_getElem? (i := 31) rfl))) Via.refl e0 (WW.2.1 2 _ _ _ rfl rfl) (g := (mkF m 4 #[.val (.ref so), .val (.int (0 : Int32))] [(.ref so), (.int ((0 : Int32) + (1 : Int32)))])) rfl rfl (hb hby den_4)
  refine Rch.go st101 ?_
  show Rch p ev below _ T101 (mkF m 7 #[.val (.ref so), .val (.int (0 : Int32))] [(.int rc), (.int ((0 : Int32) + (1 : Int32)))])
  rcases hrc with ⟨hr, hen⟩ | ⟨hr, hen⟩
  · skip
    refine Rch.go (fun _ q => XS.icmpYes X101.here hx rfl (pc0 := 7) (pc' := 21) rfl (hb hby den_7) rfl (flt (show ¬ ((0 : Int32) + (1 : Int32)) < rc by rw [hr]; decide)).2.1 (by decide) (by decide) q) ?_
    show Rch p ev below _ T101 (mkF m 21 #[.val (.ref so), .val (.int (0 : Int32))] [])
    refine Rch.go (fun _ q => XS.aloadN X101.here hx rfl (hb hby den_21) rfl rfl q) ?_
    show Rch p ev below _ T101 (mkF m 22 #[.val (.ref so), .val (.int (0 : Int32))] [(.ref so)])
    obtain ⟨T102, X102, e102, st102⟩ := getF X101 hx hZ hown (host := "") (Or.inl (hw _ (List.mem_of_getElem? (i := 33) rfl))) Via.refl e101 (WW.2.1 3 _ _ _ rfl rfl) (g := (mkF m 22 #[.val (.ref so), .val (.int (0 : Int32))] [(.ref so)])) rfl rfl (hb hby den_22)
    refine Rch.go st102 ?_
    show Rch p ev below _ T102 (mkF m 25 #[.val (.ref so), .val (.int (0 : Int32))] [(.int (Int32.ofNat N))])
    refine Rch.retI X102 hx hlk Bd.returns (hb hby den_25) (by decide) (by decide) ?_
    unfold Qrmen0
    exact ⟨by rw [hen], N0, e102⟩
  · skip
    refine Rch.go (fun _ q => XS.icmpNo X101.here hx rfl (hb hby den_7) rfl (tlt (show ((0 : Int32) + (1 : Int32)) < rc by rw [hr]; decide)).2.1 q) ?_
    show Rch p ev below _ T101 (mkF m 10 #[.val (.ref so), .val (.int (0 : Int32))] [])
    refine Rch.go (fun _ q => XS.aloadN X101.here hx rfl (hb hby den_10) rfl rfl q) ?_
    show Rch p ev below _ T101 (mkF m 11 #[.val (.ref so), .val (.int (0 : Int32))] [(.ref so)])
    obtain ⟨T103, X103, e103, st103⟩ := getF X101 hx hZ hown (host := "") (Or.inl (hw _ (List.mem_of_getElem? (i := 24) rfl))) Via.refl e101 (WW.2.1 1 _ _ _ rfl rfl) (g := (mkF m 11 #[.val (.ref so), .val (.int (0 : Int32))] [(.ref so)])) rfl rfl (hb hby den_11)
    refine Rch.go st103 ?_
    show Rch p ev below _ T103 (mkF m 14 #[.val (.ref so), .val (.int (0 : Int32))] [(.ref rt)])
    refine Rch.go (fun _ q => XS.iloadN X103.here hx rfl (hb hby den_14) rfl  q) ?_
    show Rch p ev below _ T103 (mkF m 15 #[.val (.ref so), .val (.int (0 : Int32))] [(.int (0 : Int32)), (.ref rt)])
    refine Rch.go (fun _ q => XS.iconst X103.here hx rfl (hb hby den_15) q) ?_
    show Rch p ev below _ T103 (mkF m 16 #[.val (.ref so), .val (.int (0 : Int32))] [(.int (1 : Int32)), (.int (0 : Int32)), (.ref rt)])
    refine Rch.go (fun _ q => XS.iadd X103.here hx rfl (hb hby den_16) rfl q) ?_
    show Rch p ev below _ T103 (mkF m 17 #[.val (.ref so), .val (.int (0 : Int32))] [(.int ((0 : Int32) + (1 : Int32))), (.ref rt)])
    refine Rch.go (fun _ q => ldI X103 hx hZ e103 WW.2.2.2.1 (j := ((0 : Int32) + (1 : Int32))) (v := (.int (Int32.ofNat e))) (by decide) (t1 hr) (g := (mkF m 17 #[.val (.ref so), .val (.int (0 : Int32))] [(.int ((0 : Int32) + (1 : Int32))), (.ref rt)])) rfl rfl (hb hby den_17) _ q) ?_
    show Rch p ev below _ T103 (mkF m 18 #[.val (.ref so), .val (.int (0 : Int32))] [(.int (Int32.ofNat e))])
    refine Rch.go (fun _ q => XS.goto X103.here hx rfl (pc0 := 18) (pc' := 25) rfl (hb hby den_18) (by decide) (by decide) q) ?_
    show Rch p ev below _ T103 (mkF m 25 #[.val (.ref so), .val (.int (0 : Int32))] [(.int (Int32.ofNat e))])
    refine Rch.retI X103 hx hlk Bd.returns (hb hby den_25) (by decide) (by decide) ?_
    unfold Qrmen0
    exact ⟨rfl, N0, e103⟩
theorem own_ef5 (m : MethodId) (x0 : Addr) (x1 : Int32) : entryFrame m #[(.ref x0), (.int x1)] 2 = mkF m 0 #[.val (.ref x0), .val (.int x1)] [] := by first | (simp [entryFrame, mkF, argsToLocals, Value.category, maxLocals]; done) | rfl
def Qrmen1 (Z : State) (so : Addr) (rs rt fs bs : Addr) (kr kt kf kb : ClassId) (rl tl fl bl : List Value) (zl fr br los : Int32) (sm gb : Int64) (fc bc : Nat) (A B : Int32) (e N : Nat) (rc lo : Int32) (ga : Int64) (h0 : Heap) (n0 : Nat) : Option Value → Heap → List Loc → Prop := fun v h L => v = some (.int (Int32.ofNat N)) ∧ Fr n0 L ∧ h = h0
set_option maxRecDepth 65536 in
set_option maxHeartbeats 40000000 in
theorem rmen1 (l : Launch) (Z : State) (a0 : Array Value) (hw : ∀ d ∈ tables_1, d.before a0 Z = true) (ws : List Jvm.Cond) (so : Addr) (rs rt fs bs : Addr) (kr kt kf kb : ClassId) (rl tl fl bl : List Value) (zl fr br los : Int32) (sm gb : Int64) (fc bc : Nat) (A B : Int32) (e N : Nat) (rc lo : Int32) (ga : Int64) (h0 : Heap) (n0 : Nat) (Z0 : n0 ≤ h0.size) (WW : own_W Z h0 n0 so rs rt fs bs kr kt kf kb rl tl fl bl zl [(.ref rs), (.ref rt), (.int rc), (.int (Int32.ofNat N)), (.long sm), (.ref fs), (.int (Int32.ofNat fc)), (.int fr), (.ref bs), (.int (Int32.ofNat bc)), (.int br), (.int los), (.int lo), (.long gb), (.long ga)]) (Is : own_Is A B e N rc rl tl zl sm) (hr2 : rc = 2) :
    MetFree l (⟨"com/example/binflow/binflow/solve/SubsetSums", "end", "(I)I"⟩ : MethodName) (head1 (Jvm.Cond.code (⟨"com/example/binflow/binflow/solve/SubsetSums", "end", "(I)I"⟩ : MethodName) prog_23_method_16_code 2 (some .int) :: ws) ({ frames := 0, cells := 0, slots := 0, locals := 0 } : Room)) (fun a U => a = #[(.ref so), (.int (1 : Int32))] ∧ Z.Warmed39 U.vm ∧ U.heap = h0) (fun _ _ _ _ _ => True) (fun _ U o U' => ∃ v L, o = .returned v ∧ (Qrmen1 Z so rs rt fs bs kr kt kf kb rl tl fl bl zl fr br los sm gb fc bc A B e N rc lo ga h0 n0) v U'.heap L ∧ FrameEnd U o U' L ({ frames := 0, cells := 0, slots := 0, locals := 0 } : Room).cells ({ frames := 0, cells := 0, slots := 0, locals := 0 } : Room).slots) := by
  refine MetFree.of_bodySF own_pn3 hisR ?_
  intro p ev s m args below meth c s₁ Bd hml0 hP hK
  obtain ⟨rfl, hZ, hh⟩ := hP
  have hx := Bd.exec
  have hby := Bd.bytes
  have hlk := Bd.notSynchronized
  have hml : c.maxLocals = 2 := hml0
  have hown : s.vm.findClass "com/example/binflow/binflow/solve/SubsetSums" = some m.cls := findClass_of_methodNamed Bd.named
  have hnm := (name_of_methodNamed Bd.named Bd.method).1
  have X0 : Stand p l ev ({ frames := 0, cells := 0, slots := 0, locals := 0 } : Room) s m #[(.ref so), (.int (1 : Int32))] below meth c s₁ [] 0 0 := Stand.of_body Bd
  have e0 : s₁.heap = h0 := by rw [← hh, Bd.state]; rfl
  have N0 := Fr.nil n0
  refine Rch.entry (G := (EndQ (Qrmen1 Z so rs rt fs bs kr kt kf kb rl tl fl bl zl fr br los sm gb fc bc A B e N rc lo ga h0 n0) s ({ frames := 0, cells := 0, slots := 0, locals := 0 } : Room).cells ({ frames := 0, cells := 0, slots := 0, locals := 0 } : Room).slots)) (own_ef5 m so (1 : Int32)) ?_
  show Rch p ev below _ s₁ (mkF m 0 #[.val (.ref so), .val (.int (1 : Int32))] [])
  obtain ⟨hA, hB, he1, heN, hN8, hrc, r0, r1, t0, t1, zN, z16, hsm, hrl2, htl2⟩ := id Is
  refine Rch.go (fun _ q => XS.iloadN X0.here hx rfl (hb hby den_0) rfl  q) ?_
  show Rch p ev below _ s₁ (mkF m 1 #[.val (.ref so), .val (.int (1 : Int32))] [(.int (1 : Int32))])
  refine Rch.go (fun _ q => XS.iconst X0.here hx rfl (hb hby den_1) q) ?_
  show Rch p ev below _ s₁ (mkF m 2 #[.val (.ref so), .val (.int (1 : Int32))] [(.int (1 : Int32)), (.int (1 : Int32))])
  refine Rch.go (fun _ q => XS.iadd X0.here hx rfl (hb hby den_2) rfl q) ?_
  show Rch p ev below _ s₁ (mkF m 3 #[.val (.ref so), .val (.int (1 : Int32))] [(.int ((1 : Int32) + (1 : Int32)))])
  refine Rch.go (fun _ q => XS.aloadN X0.here hx rfl (hb hby den_3) rfl rfl q) ?_
  show Rch p ev below _ s₁ (mkF m 4 #[.val (.ref so), .val (.int (1 : Int32))] [(.ref so), (.int ((1 : Int32) + (1 : Int32)))])
  obtain ⟨T101, X101, e101, st101⟩ := getF X0 hx hZ hown (host := "") (Or.inl (hw _ (List.mem_of_getElem? (i := 31) rfl))) Via.refl e0 (WW.2.1 2 _ _ _ rfl rfl) (g := (mkF m 4 #[.val (.ref so), .val (.int (1 : Int32))] [(.ref so), (.int ((1 : Int32) + (1 : Int32)))])) rfl rfl (hb hby den_4)
  refine Rch.go st101 ?_
  show Rch p ev below _ T101 (mkF m 7 #[.val (.ref so), .val (.int (1 : Int32))] [(.int rc), (.int ((1 : Int32) + (1 : Int32)))])
  refine Rch.go (fun _ q => XS.icmpYes X101.here hx rfl (pc0 := 7) (pc' := 21) rfl (hb hby den_7) rfl (flt (show ¬ ((1 : Int32) + (1 : Int32)) < rc by rw [hr2]; decide)).2.1 (by decide) (by decide) q) ?_
  show Rch p ev below _ T101 (mkF m 21 #[.val (.ref so), .val (.int (1 : Int32))] [])
  refine Rch.go (fun _ q => XS.aloadN X101.here hx rfl (hb hby den_21) rfl rfl q) ?_
  show Rch p ev below _ T101 (mkF m 22 #[.val (.ref so), .val (.int (1 : Int32))] [(.ref so)])
  obtain ⟨T102, X102, e102, st102⟩ := getF X101 hx hZ hown (host := "") (Or.inl (hw _ (List.mem_of_getElem? (i := 33) rfl))) Via.refl e101 (WW.2.1 3 _ _ _ rfl rfl) (g := (mkF m 22 #[.val (.ref so), .val (.int (1 : Int32))] [(.ref so)])) rfl rfl (hb hby den_22)
  refine Rch.go st102 ?_
  show Rch p ev below _ T102 (mkF m 25 #[.val (.ref so), .val (.int (1 : Int32))] [(.int (Int32.ofNat N))])
  refine Rch.retI X102 hx hlk Bd.returns (hb hby den_25) (by decide) (by decide) ?_
  unfold Qrmen1
  exact ⟨rfl, N0, e102⟩
theorem own_pn4 : plainFor (⟨"com/example/binflow/binflow/solve/SubsetSums", "last", "(I)J"⟩ : MethodName) = true := by first | exact plainFor_of_name (by first | (simp [plainName, overriddenIn]; done) | decide +kernel) | decide +kernel
theorem own_pd3 : parseMethodDescriptor "(I)J" = some ⟨[.int], some .long⟩ := by decide +kernel
theorem dla_0 : decode prog_23_method_15_code 0 = .ok (.iload_n 1, 1) := by decide +kernel
theorem dla_1 : decode prog_23_method_15_code 1 = .ok (.aload_n 0, 1) := by decide +kernel
theorem dla_2 : decode prog_23_method_15_code 2 = .ok (.getfield 40, 3) := by decide +kernel
theorem dla_5 : decode prog_23_method_15_code 5 = .ok (.if_icmp .le 42, 3) := by decide +kernel
theorem dla_8 : decode prog_23_method_15_code 8 = .ok (.aload_n 0, 1) := by decide +kernel
theorem dla_9 : decode prog_23_method_15_code 9 = .ok (.getfield 27, 3) := by decide +kernel
theorem dla_12 : decode prog_23_method_15_code 12 = .ok (.iload_n 1, 1) := by decide +kernel
theorem dla_13 : decode prog_23_method_15_code 13 = .ok (.isub, 1) := by decide +kernel
theorem dla_14 : decode prog_23_method_15_code 14 = .ok (.aload_n 0, 1) := by decide +kernel
theorem dla_15 : decode prog_23_method_15_code 15 = .ok (.getfield 34, 3) := by decide +kernel
theorem dla_18 : decode prog_23_method_15_code 18 = .ok (.if_icmp .le 13, 3) := by decide +kernel
theorem dla_21 : decode prog_23_method_15_code 21 = .ok (.aload_n 0, 1) := by decide +kernel
theorem dla_22 : decode prog_23_method_15_code 22 = .ok (.getfield 27, 3) := by decide +kernel
theorem dla_25 : decode prog_23_method_15_code 25 = .ok (.iload_n 1, 1) := by decide +kernel
theorem dla_26 : decode prog_23_method_15_code 26 = .ok (.isub, 1) := by decide +kernel
theorem dla_27 : decode prog_23_method_15_code 27 = .ok (.iload_n 1, 1) := by decide +kernel
theorem dla_28 : decode prog_23_method_15_code 28 = .ok (.if_icmp .ge 19, 3) := by decide +kernel
theorem dla_31 : decode prog_23_method_15_code 31 = .ok (.aload_n 0, 1) := by decide +kernel
theorem dla_32 : decode prog_23_method_15_code 32 = .ok (.getfield 30, 3) := by decide +kernel
theorem dla_35 : decode prog_23_method_15_code 35 = .ok (.aload_n 0, 1) := by decide +kernel
theorem dla_36 : decode prog_23_method_15_code 36 = .ok (.aload_n 0, 1) := by decide +kernel
theorem dla_37 : decode prog_23_method_15_code 37 = .ok (.getfield 27, 3) := by decide +kernel
theorem dla_40 : decode prog_23_method_15_code 40 = .ok (.iload_n 1, 1) := by decide +kernel
theorem dla_41 : decode prog_23_method_15_code 41 = .ok (.isub, 1) := by decide +kernel
theorem dla_42 : decode prog_23_method_15_code 42 = .ok (.invokevirtual 97, 3) := by decide +kernel
theorem dla_45 : decode prog_23_method_15_code 45 = .ok (.lsub, 1) := by decide +kernel
theorem dla_46 : decode prog_23_method_15_code 46 = .ok (.lreturn, 1) := by decide +kernel
theorem dla_47 : decode prog_23_method_15_code 47 = .ok (.aload_n 0, 1) := by decide +kernel
theorem dla_48 : decode prog_23_method_15_code 48 = .ok (.getfield 40, 3) := by decide +kernel
theorem dla_51 : decode prog_23_method_15_code 51 = .ok (.iload_n 1, 1) := by decide +kernel
theorem dla_52 : decode prog_23_method_15_code 52 = .ok (.if_icmp .ge 78, 3) := by decide +kernel
theorem dla_55 : decode prog_23_method_15_code 55 = .ok (.aload_n 0, 1) := by decide +kernel
theorem dla_56 : decode prog_23_method_15_code 56 = .ok (.getfield 27, 3) := by decide +kernel
theorem dla_59 : decode prog_23_method_15_code 59 = .ok (.aload_n 0, 1) := by decide +kernel
theorem dla_60 : decode prog_23_method_15_code 60 = .ok (.getfield 40, 3) := by decide +kernel
theorem dla_63 : decode prog_23_method_15_code 63 = .ok (.isub, 1) := by decide +kernel
theorem dla_64 : decode prog_23_method_15_code 64 = .ok (.aload_n 0, 1) := by decide +kernel
theorem dla_65 : decode prog_23_method_15_code 65 = .ok (.getfield 20, 3) := by decide +kernel
theorem dla_68 : decode prog_23_method_15_code 68 = .ok (.aload_n 0, 1) := by decide +kernel
theorem dla_69 : decode prog_23_method_15_code 69 = .ok (.getfield 43, 3) := by decide +kernel
theorem dla_72 : decode prog_23_method_15_code 72 = .ok (.iaload, 1) := by decide +kernel
theorem dla_73 : decode prog_23_method_15_code 73 = .ok (.if_icmp .ne 13, 3) := by decide +kernel
theorem dla_76 : decode prog_23_method_15_code 76 = .ok (.aload_n 0, 1) := by decide +kernel
theorem dla_77 : decode prog_23_method_15_code 77 = .ok (.dup, 1) := by decide +kernel
theorem dla_78 : decode prog_23_method_15_code 78 = .ok (.getfield 43, 3) := by decide +kernel
theorem dla_81 : decode prog_23_method_15_code 81 = .ok (.iconst 1, 1) := by decide +kernel
theorem dla_82 : decode prog_23_method_15_code 82 = .ok (.isub, 1) := by decide +kernel
theorem dla_83 : decode prog_23_method_15_code 83 = .ok (.putfield 43, 3) := by decide +kernel
theorem dla_86 : decode prog_23_method_15_code 86 = .ok (.aload_n 0, 1) := by decide +kernel
theorem dla_87 : decode prog_23_method_15_code 87 = .ok (.getfield 13, 3) := by decide +kernel
theorem dla_90 : decode prog_23_method_15_code 90 = .ok (.aload_n 0, 1) := by decide +kernel
theorem dla_91 : decode prog_23_method_15_code 91 = .ok (.getfield 40, 3) := by decide +kernel
theorem dla_94 : decode prog_23_method_15_code 94 = .ok (.iconst 1, 1) := by decide +kernel
theorem dla_95 : decode prog_23_method_15_code 95 = .ok (.iadd, 1) := by decide +kernel
theorem dla_96 : decode prog_23_method_15_code 96 = .ok (.aload_n 0, 1) := by decide +kernel
theorem dla_97 : decode prog_23_method_15_code 97 = .ok (.getfield 13, 3) := by decide +kernel
theorem dla_100 : decode prog_23_method_15_code 100 = .ok (.aload_n 0, 1) := by decide +kernel
theorem dla_101 : decode prog_23_method_15_code 101 = .ok (.getfield 40, 3) := by decide +kernel
theorem dla_104 : decode prog_23_method_15_code 104 = .ok (.laload, 1) := by decide +kernel
theorem dla_105 : decode prog_23_method_15_code 105 = .ok (.aload_n 0, 1) := by decide +kernel
theorem dla_106 : decode prog_23_method_15_code 106 = .ok (.getfield 16, 3) := by decide +kernel
theorem dla_109 : decode prog_23_method_15_code 109 = .ok (.aload_n 0, 1) := by decide +kernel
theorem dla_110 : decode prog_23_method_15_code 110 = .ok (.getfield 43, 3) := by decide +kernel
theorem dla_113 : decode prog_23_method_15_code 113 = .ok (.iaload, 1) := by decide +kernel
theorem dla_114 : decode prog_23_method_15_code 114 = .ok (.i2l, 1) := by decide +kernel
theorem dla_115 : decode prog_23_method_15_code 115 = .ok (.ladd, 1) := by decide +kernel
theorem dla_116 : decode prog_23_method_15_code 116 = .ok (.lastore, 1) := by decide +kernel
theorem dla_117 : decode prog_23_method_15_code 117 = .ok (.aload_n 0, 1) := by decide +kernel
theorem dla_118 : decode prog_23_method_15_code 118 = .ok (.dup, 1) := by decide +kernel
theorem dla_119 : decode prog_23_method_15_code 119 = .ok (.getfield 40, 3) := by decide +kernel
theorem dla_122 : decode prog_23_method_15_code 122 = .ok (.iconst 1, 1) := by decide +kernel
theorem dla_123 : decode prog_23_method_15_code 123 = .ok (.iadd, 1) := by decide +kernel
theorem dla_124 : decode prog_23_method_15_code 124 = .ok (.putfield 40, 3) := by decide +kernel
theorem dla_127 : decode prog_23_method_15_code 127 = .ok (.goto (-80), 3) := by decide +kernel
theorem dla_130 : decode prog_23_method_15_code 130 = .ok (.aload_n 0, 1) := by decide +kernel
theorem dla_131 : decode prog_23_method_15_code 131 = .ok (.getfield 13, 3) := by decide +kernel
theorem dla_134 : decode prog_23_method_15_code 134 = .ok (.iload_n 1, 1) := by decide +kernel
theorem dla_135 : decode prog_23_method_15_code 135 = .ok (.laload, 1) := by decide +kernel
theorem dla_136 : decode prog_23_method_15_code 136 = .ok (.lreturn, 1) := by decide +kernel
theorem own_ef6 (m : MethodId) (x0 : Addr) (x1 : Int32) : entryFrame m #[(.ref x0), (.int x1)] 2 = mkF m 0 #[.val (.ref x0), .val (.int x1)] [] := by first | (simp [entryFrame, mkF, argsToLocals, Value.category, maxLocals]; done) | rfl
def Qrmla0 (Z : State) (so : Addr) (A B : Int32) (e N : Nat) (rc lo : Int32) (ga : Int64) (fc bc jj : Nat) (h0 : Heap) (n0 : Nat) : Option Value → Heap → List Loc → Prop := fun v h L => v = some (.long (own_L ((own_F A.toInt B.toInt e N) - (own_F A.toInt B.toInt e (N - jj))))) ∧ Fr n0 L ∧ own_Sg Z h n0 so A B e N rc lo ga
set_option maxRecDepth 65536 in
set_option maxHeartbeats 40000000 in
theorem rmla0 (l : Launch) (Z : State) (a0 : Array Value) (hw : ∀ d ∈ tables_1, d.before a0 Z = true) (ws : List Jvm.Cond) (so : Addr) (A B : Int32) (e N : Nat) (rc lo : Int32) (ga : Int64) (fc bc jj : Nat) (h0 : Heap) (n0 : Nat) (Z0 : n0 ≤ h0.size) (S : own_Sx Z h0 n0 so A B e N rc lo ga fc bc) (hj : jj ≤ N) (hb0 : ¬ (bc < jj ∧ (N - jj ≤ fc ∨ N - jj < jj))) :
    MetFree l (⟨"com/example/binflow/binflow/solve/SubsetSums", "last", "(I)J"⟩ : MethodName) (head1 (Jvm.Cond.code (⟨"com/example/binflow/binflow/solve/SubsetSums", "last", "(I)J"⟩ : MethodName) prog_23_method_15_code 2 (some .long) :: ws) ({ frames := 0, cells := 0, slots := 0, locals := 0 } : Room)) (fun a U => a = #[(.ref so), (.int (Int32.ofNat jj))] ∧ Z.Warmed39 U.vm ∧ U.heap = h0) (fun _ _ _ _ _ => True) (fun _ U o U' => ∃ v L, o = .returned v ∧ (Qrmla0 Z so A B e N rc lo ga fc bc jj h0 n0) v U'.heap L ∧ FrameEnd U o U' L ({ frames := 0, cells := 0, slots := 0, locals := 0 } : Room).cells ({ frames := 0, cells := 0, slots := 0, locals := 0 } : Room).slots) := by
  refine MetFree.of_bodySF own_pn4 hisR ?_
  intro p ev s m args below meth c s₁ Bd hml0 hP hK
  obtain ⟨rfl, hZ, hh⟩ := hP
  have hx := Bd.exec
  have hby := Bd.bytes
  have hlk := Bd.notSynchronized
  have hml : c.maxLocals = 2 := hml0
  have hown : s.vm.findClass "com/example/binflow/binflow/solve/SubsetSums" = some m.cls := findClass_of_methodNamed Bd.named
  have hnm := (name_of_methodNamed Bd.named Bd.method).1
  have X0 : Stand p l ev ({ frames := 0, cells := 0, slots := 0, locals := 0 } : Room) s m #[(.ref so), (.int (Int32.ofNat jj))] below meth c s₁ [] 0 0 := Stand.of_body Bd
  have e0 : s₁.heap = h0 := by rw [← hh, Bd.state]; rfl
  have N0 := Fr.nil n0
  refine Rch.entry (G := (EndQ (Qrmla0 Z so A B e N rc lo ga fc bc jj h0 n0) s ({ frames := 0, cells := 0, slots := 0, locals := 0 } : Room).cells ({ frames := 0, cells := 0, slots := 0, locals := 0 } : Room).slots)) (own_ef6 m so (Int32.ofNat jj)) ?_
  show Rch p ev below _ s₁ (mkF m 0 #[.val (.ref so), .val (.int (Int32.ofNat jj))] [])
  obtain ⟨rs, rt, fs, bs, kr, kt, kf, kb, rl, tl, fl, bl, zl, fr, br, los, sm, gb, WW, Is, If, Ib⟩ := id S
  obtain ⟨hA, hB, he1, heN, hN8, hrc, r0, r1, t0, t1, zN, z16, hsm, hrl2, htl2⟩ := id Is
  have hfcN := If.1
  have hbcN := Ib.1
  have nzl := own_nat zl (by omega)
  have loop : ∀ (k : Nat) (Tl : State) (hl : Heap) (Ll : List Loc) (bcl : Nat) (brl : Int32) (bll : List Value), Stand p l ev ({ frames := 0, cells := 0, slots := 0, locals := 0 } : Room) s m #[(.ref so), (.int (Int32.ofNat jj))] below meth c Tl Ll 0 0 → Tl.heap = hl → Fr n0 Ll → own_W Z hl n0 so rs rt fs bs kr kt kf kb rl tl fl bll zl [(.ref rs), (.ref rt), (.int rc), (.int (Int32.ofNat N)), (.long sm), (.ref fs), (.int (Int32.ofNat fc)), (.int fr), (.ref bs), (.int (Int32.ofNat bcl)), (.int brl), (.int los), (.int lo), (.long gb), (.long ga)] → own_Ib A B e N rc zl bll bcl brl → jj ≤ bcl + k → Rch p ev below (EndQ (Qrmla0 Z so A B e N rc lo ga fc bc jj h0 n0) s ({ frames := 0, cells := 0, slots := 0, locals := 0 } : Room).cells ({ frames := 0, cells := 0, slots := 0, locals := 0 } : Room).slots) Tl (mkF m 47 #[.val (.ref so), .val (.int (Int32.ofNat jj))] []) := by
    intro k
    induction k with
    | zero =>
      intro Tl hl Ll bcl brl bll Xl el Nl Wl hinv hk
      obtain ⟨hc1, hc2, hc3, hvals⟩ := id hinv
      show Rch p ev below _ Tl (mkF m 47 #[.val (.ref so), .val (.int (Int32.ofNat jj))] [])
      refine Rch.go (fun _ q => XS.aloadN Xl.here hx rfl (hb hby dla_47) rfl rfl q) ?_
      show Rch p ev below _ Tl (mkF m 48 #[.val (.ref so), .val (.int (Int32.ofNat jj))] [(.ref so)])
      obtain ⟨T101, X101, e101, st101⟩ := getF Xl hx hZ hown (host := "") (Or.inl (hw _ (List.mem_of_getElem? (i := 37) rfl))) Via.refl el (Wl.2.1 9 _ _ _ rfl rfl) (g := (mkF m 48 #[.val (.ref so), .val (.int (Int32.ofNat jj))] [(.ref so)])) rfl rfl (hb hby dla_48)
      refine Rch.go st101 ?_
      show Rch p ev below _ T101 (mkF m 51 #[.val (.ref so), .val (.int (Int32.ofNat jj))] [(.int (Int32.ofNat bcl))])
      refine Rch.go (fun _ q => XS.iloadN X101.here hx rfl (hb hby dla_51) rfl  q) ?_
      show Rch p ev below _ T101 (mkF m 52 #[.val (.ref so), .val (.int (Int32.ofNat jj))] [(.int (Int32.ofNat jj)), (.int (Int32.ofNat bcl))])
      refine Rch.go (fun _ q => XS.icmpYes X101.here hx rfl (pc0 := 52) (pc' := 130) rfl (hb hby dla_52) rfl (flt (mt (own_lt_N (a := bcl) (b := jj) (by omega) (by omega)).mp (by omega))).2.1 (by decide) (by decide) q) ?_
      show Rch p ev below _ T101 (mkF m 130 #[.val (.ref so), .val (.int (Int32.ofNat jj))] [])
      refine Rch.go (fun _ q => XS.aloadN X101.here hx rfl (hb hby dla_130) rfl rfl q) ?_
      show Rch p ev below _ T101 (mkF m 131 #[.val (.ref so), .val (.int (Int32.ofNat jj))] [(.ref so)])
      obtain ⟨T102, X102, e102, st102⟩ := getF X101 hx hZ hown (host := "") (Or.inl (hw _ (List.mem_of_getElem? (i := 19) rfl))) Via.refl e101 (Wl.2.1 8 _ _ _ rfl rfl) (g := (mkF m 131 #[.val (.ref so), .val (.int (Int32.ofNat jj))] [(.ref so)])) rfl rfl (hb hby dla_131)
      refine Rch.go st102 ?_
      show Rch p ev below _ T102 (mkF m 134 #[.val (.ref so), .val (.int (Int32.ofNat jj))] [(.ref bs)])
      refine Rch.go (fun _ q => XS.iloadN X102.here hx rfl (hb hby dla_134) rfl  q) ?_
      show Rch p ev below _ T102 (mkF m 135 #[.val (.ref so), .val (.int (Int32.ofNat jj))] [(.int (Int32.ofNat jj)), (.ref bs)])
      refine Rch.go (fun _ q => ldJ X102 hx hZ e102 Wl.2.2.2.2.2.1 (j := (Int32.ofNat jj)) (v := (.long (own_L ((own_F A.toInt B.toInt e N) - (own_F A.toInt B.toInt e (N - jj)))))) (own_in_N (by omega) (by omega)) (by rw [own_nat_N (by omega)]; exact hvals jj (by omega)) (g := (mkF m 135 #[.val (.ref so), .val (.int (Int32.ofNat jj))] [(.int (Int32.ofNat jj)), (.ref bs)])) rfl rfl (hb hby dla_135) _ q) ?_
      show Rch p ev below _ T102 (mkF m 136 #[.val (.ref so), .val (.int (Int32.ofNat jj))] [(.long (own_L ((own_F A.toInt B.toInt e N) - (own_F A.toInt B.toInt e (N - jj)))))])
      refine Rch.retJ X102 hx hlk Bd.returns (hb hby dla_136) (by decide) (by decide) ?_
      unfold Qrmla0
      rw [e102]
      exact ⟨rfl, Nl, fc, bcl, rs, rt, fs, bs, kr, kt, kf, kb, rl, tl, fl, bll, zl, fr, brl, los, sm, gb, Wl, Is, If, hinv⟩
    | succ k ih =>
      intro Tl hl Ll bcl brl bll Xl el Nl Wl hinv hk
      obtain ⟨hc1, hc2, hc3, hvals⟩ := id hinv
      show Rch p ev below _ Tl (mkF m 47 #[.val (.ref so), .val (.int (Int32.ofNat jj))] [])
      refine Rch.go (fun _ q => XS.aloadN Xl.here hx rfl (hb hby dla_47) rfl rfl q) ?_
      show Rch p ev below _ Tl (mkF m 48 #[.val (.ref so), .val (.int (Int32.ofNat jj))] [(.ref so)])
      obtain ⟨T103, X103, e103, st103⟩ := getF Xl hx hZ hown (host := "") (Or.inl (hw _ (List.mem_of_getElem? (i := 37) rfl))) Via.refl el (Wl.2.1 9 _ _ _ rfl rfl) (g := (mkF m 48 #[.val (.ref so), .val (.int (Int32.ofNat jj))] [(.ref so)])) rfl rfl (hb hby dla_48)
      refine Rch.go st103 ?_
      show Rch p ev below _ T103 (mkF m 51 #[.val (.ref so), .val (.int (Int32.ofNat jj))] [(.int (Int32.ofNat bcl))])
      refine Rch.go (fun _ q => XS.iloadN X103.here hx rfl (hb hby dla_51) rfl  q) ?_
      show Rch p ev below _ T103 (mkF m 52 #[.val (.ref so), .val (.int (Int32.ofNat jj))] [(.int (Int32.ofNat jj)), (.int (Int32.ofNat bcl))])
      by_cases hc52 : bcl < jj
      · skip
        refine Rch.go (fun _ q => XS.icmpNo X103.here hx rfl (hb hby dla_52) rfl (tlt ((own_lt_N (a := bcl) (b := jj) (by omega) (by omega)).mpr hc52)).2.1 q) ?_
        show Rch p ev below _ T103 (mkF m 55 #[.val (.ref so), .val (.int (Int32.ofNat jj))] [])
        rcases hc2 with ⟨hr, hbr⟩ | ⟨hr, ⟨hbr, hbe⟩ | ⟨hbr, hbe⟩⟩
        · subst hbr
          have hen : e = N := by rcases hrc with ⟨q, q2⟩ | ⟨q, q2⟩; exact q2; rw [hr] at q; exact absurd q (by decide)
          show Rch p ev below _ T103 (mkF m 55 #[.val (.ref so), .val (.int (Int32.ofNat jj))] [])
          refine Rch.go (fun _ q => XS.aloadN X103.here hx rfl (hb hby dla_55) rfl rfl q) ?_
          show Rch p ev below _ T103 (mkF m 56 #[.val (.ref so), .val (.int (Int32.ofNat jj))] [(.ref so)])
          obtain ⟨T104, X104, e104, st104⟩ := getF X103 hx hZ hown (host := "") (Or.inl (hw _ (List.mem_of_getElem? (i := 33) rfl))) Via.refl e103 (Wl.2.1 3 _ _ _ rfl rfl) (g := (mkF m 56 #[.val (.ref so), .val (.int (Int32.ofNat jj))] [(.ref so)])) rfl rfl (hb hby dla_56)
          refine Rch.go st104 ?_
          show Rch p ev below _ T104 (mkF m 59 #[.val (.ref so), .val (.int (Int32.ofNat jj))] [(.int (Int32.ofNat N))])
          refine Rch.go (fun _ q => XS.aloadN X104.here hx rfl (hb hby dla_59) rfl rfl q) ?_
          show Rch p ev below _ T104 (mkF m 60 #[.val (.ref so), .val (.int (Int32.ofNat jj))] [(.ref so), (.int (Int32.ofNat N))])
          obtain ⟨T105, X105, e105, st105⟩ := getF X104 hx hZ hown (host := "") (Or.inl (hw _ (List.mem_of_getElem? (i := 37) rfl))) Via.refl e104 (Wl.2.1 9 _ _ _ rfl rfl) (g := (mkF m 60 #[.val (.ref so), .val (.int (Int32.ofNat jj))] [(.ref so), (.int (Int32.ofNat N))])) rfl rfl (hb hby dla_60)
          refine Rch.go st105 ?_
          show Rch p ev below _ T105 (mkF m 63 #[.val (.ref so), .val (.int (Int32.ofNat jj))] [(.int (Int32.ofNat bcl)), (.int (Int32.ofNat N))])
          refine Rch.go (fun _ q => XS.isub X105.here hx rfl (hb hby dla_63) rfl q) ?_
          show Rch p ev below _ T105 (mkF m 64 #[.val (.ref so), .val (.int (Int32.ofNat jj))] [(.int ((Int32.ofNat N) - (Int32.ofNat bcl)))])
          rw [show (Int32.ofNat N - Int32.ofNat bcl) = (Int32.ofNat (N - bcl)) from (own_sub_N (by omega) (by omega))]
          show Rch p ev below _ T105 (mkF m 64 #[.val (.ref so), .val (.int (Int32.ofNat jj))] [(.int (Int32.ofNat (N - bcl)))])
          refine Rch.go (fun _ q => XS.aloadN X105.here hx rfl (hb hby dla_64) rfl rfl q) ?_
          show Rch p ev below _ T105 (mkF m 65 #[.val (.ref so), .val (.int (Int32.ofNat jj))] [(.ref so), (.int (Int32.ofNat (N - bcl)))])
          obtain ⟨T106, X106, e106, st106⟩ := getF X105 hx hZ hown (host := "") (Or.inl (hw _ (List.mem_of_getElem? (i := 24) rfl))) Via.refl e105 (Wl.2.1 1 _ _ _ rfl rfl) (g := (mkF m 65 #[.val (.ref so), .val (.int (Int32.ofNat jj))] [(.ref so), (.int (Int32.ofNat (N - bcl)))])) rfl rfl (hb hby dla_65)
          refine Rch.go st106 ?_
          show Rch p ev below _ T106 (mkF m 68 #[.val (.ref so), .val (.int (Int32.ofNat jj))] [(.ref rt), (.int (Int32.ofNat (N - bcl)))])
          refine Rch.go (fun _ q => XS.aloadN X106.here hx rfl (hb hby dla_68) rfl rfl q) ?_
          show Rch p ev below _ T106 (mkF m 69 #[.val (.ref so), .val (.int (Int32.ofNat jj))] [(.ref so), (.ref rt), (.int (Int32.ofNat (N - bcl)))])
          obtain ⟨T107, X107, e107, st107⟩ := getF X106 hx hZ hown (host := "") (Or.inl (hw _ (List.mem_of_getElem? (i := 39) rfl))) Via.refl e106 (Wl.2.1 10 _ _ _ rfl rfl) (g := (mkF m 69 #[.val (.ref so), .val (.int (Int32.ofNat jj))] [(.ref so), (.ref rt), (.int (Int32.ofNat (N - bcl)))])) rfl rfl (hb hby dla_69)
          refine Rch.go st107 ?_
          show Rch p ev below _ T107 (mkF m 72 #[.val (.ref so), .val (.int (Int32.ofNat jj))] [(.int (0 : Int32)), (.ref rt), (.int (Int32.ofNat (N - bcl)))])
          refine Rch.go (fun _ q => ldI X107 hx hZ e107 Wl.2.2.2.1 (j := (0 : Int32)) (v := (.int (0 : Int32))) (by decide) t0 (g := (mkF m 72 #[.val (.ref so), .val (.int (Int32.ofNat jj))] [(.int (0 : Int32)), (.ref rt), (.int (Int32.ofNat (N - bcl)))])) rfl rfl (hb hby dla_72) _ q) ?_
          show Rch p ev below _ T107 (mkF m 73 #[.val (.ref so), .val (.int (Int32.ofNat jj))] [(.int (0 : Int32)), (.int (Int32.ofNat (N - bcl)))])
          refine Rch.go (fun _ q => XS.icmpYes X107.here hx rfl (pc0 := 73) (pc' := 86) rfl (hb hby dla_73) rfl (feq (mt (own_eq_N (a := N - bcl) (b := 0) (by omega) (by omega)).mp (by omega))).2 (by decide) (by decide) q) ?_
          show Rch p ev below _ T107 (mkF m 86 #[.val (.ref so), .val (.int (Int32.ofNat jj))] [])
          refine Rch.go (fun _ q => XS.aloadN X107.here hx rfl (hb hby dla_86) rfl rfl q) ?_
          show Rch p ev below _ T107 (mkF m 87 #[.val (.ref so), .val (.int (Int32.ofNat jj))] [(.ref so)])
          obtain ⟨T108, X108, e108, st108⟩ := getF X107 hx hZ hown (host := "") (Or.inl (hw _ (List.mem_of_getElem? (i := 19) rfl))) Via.refl e107 (Wl.2.1 8 _ _ _ rfl rfl) (g := (mkF m 87 #[.val (.ref so), .val (.int (Int32.ofNat jj))] [(.ref so)])) rfl rfl (hb hby dla_87)
          refine Rch.go st108 ?_
          show Rch p ev below _ T108 (mkF m 90 #[.val (.ref so), .val (.int (Int32.ofNat jj))] [(.ref bs)])
          refine Rch.go (fun _ q => XS.aloadN X108.here hx rfl (hb hby dla_90) rfl rfl q) ?_
          show Rch p ev below _ T108 (mkF m 91 #[.val (.ref so), .val (.int (Int32.ofNat jj))] [(.ref so), (.ref bs)])
          obtain ⟨T109, X109, e109, st109⟩ := getF X108 hx hZ hown (host := "") (Or.inl (hw _ (List.mem_of_getElem? (i := 37) rfl))) Via.refl e108 (Wl.2.1 9 _ _ _ rfl rfl) (g := (mkF m 91 #[.val (.ref so), .val (.int (Int32.ofNat jj))] [(.ref so), (.ref bs)])) rfl rfl (hb hby dla_91)
          refine Rch.go st109 ?_
          show Rch p ev below _ T109 (mkF m 94 #[.val (.ref so), .val (.int (Int32.ofNat jj))] [(.int (Int32.ofNat bcl)), (.ref bs)])
          refine Rch.go (fun _ q => XS.iconst X109.here hx rfl (hb hby dla_94) q) ?_
          show Rch p ev below _ T109 (mkF m 95 #[.val (.ref so), .val (.int (Int32.ofNat jj))] [(.int (1 : Int32)), (.int (Int32.ofNat bcl)), (.ref bs)])
          refine Rch.go (fun _ q => XS.iadd X109.here hx rfl (hb hby dla_95) rfl q) ?_
          show Rch p ev below _ T109 (mkF m 96 #[.val (.ref so), .val (.int (Int32.ofNat jj))] [(.int ((Int32.ofNat bcl) + (1 : Int32))), (.ref bs)])
          rw [show (Int32.ofNat bcl + (1 : Int32)) = (Int32.ofNat (bcl + 1)) from (own_add1_N (by omega))]
          show Rch p ev below _ T109 (mkF m 96 #[.val (.ref so), .val (.int (Int32.ofNat jj))] [(.int (Int32.ofNat (bcl + 1))), (.ref bs)])
          refine Rch.go (fun _ q => XS.aloadN X109.here hx rfl (hb hby dla_96) rfl rfl q) ?_
          show Rch p ev below _ T109 (mkF m 97 #[.val (.ref so), .val (.int (Int32.ofNat jj))] [(.ref so), (.int (Int32.ofNat (bcl + 1))), (.ref bs)])
          obtain ⟨T110, X110, e110, st110⟩ := getF X109 hx hZ hown (host := "") (Or.inl (hw _ (List.mem_of_getElem? (i := 19) rfl))) Via.refl e109 (Wl.2.1 8 _ _ _ rfl rfl) (g := (mkF m 97 #[.val (.ref so), .val (.int (Int32.ofNat jj))] [(.ref so), (.int (Int32.ofNat (bcl + 1))), (.ref bs)])) rfl rfl (hb hby dla_97)
          refine Rch.go st110 ?_
          show Rch p ev below _ T110 (mkF m 100 #[.val (.ref so), .val (.int (Int32.ofNat jj))] [(.ref bs), (.int (Int32.ofNat (bcl + 1))), (.ref bs)])
          refine Rch.go (fun _ q => XS.aloadN X110.here hx rfl (hb hby dla_100) rfl rfl q) ?_
          show Rch p ev below _ T110 (mkF m 101 #[.val (.ref so), .val (.int (Int32.ofNat jj))] [(.ref so), (.ref bs), (.int (Int32.ofNat (bcl + 1))), (.ref bs)])
          obtain ⟨T111, X111, e111, st111⟩ := getF X110 hx hZ hown (host := "") (Or.inl (hw _ (List.mem_of_getElem? (i := 37) rfl))) Via.refl e110 (Wl.2.1 9 _ _ _ rfl rfl) (g := (mkF m 101 #[.val (.ref so), .val (.int (Int32.ofNat jj))] [(.ref so), (.ref bs), (.int (Int32.ofNat (bcl + 1))), (.ref bs)])) rfl rfl (hb hby dla_101)
          refine Rch.go st111 ?_
          show Rch p ev below _ T111 (mkF m 104 #[.val (.ref so), .val (.int (Int32.ofNat jj))] [(.int (Int32.ofNat bcl)), (.ref bs), (.int (Int32.ofNat (bcl + 1))), (.ref bs)])
          refine Rch.go (fun _ q => ldJ X111 hx hZ e111 Wl.2.2.2.2.2.1 (j := (Int32.ofNat bcl)) (v := (.long (own_L ((own_F A.toInt B.toInt e N) - (own_F A.toInt B.toInt e (N - bcl)))))) (own_in_N (by omega) (by omega)) (by rw [own_nat_N (by omega)]; exact hvals bcl (Nat.le_refl _)) (g := (mkF m 104 #[.val (.ref so), .val (.int (Int32.ofNat jj))] [(.int (Int32.ofNat bcl)), (.ref bs), (.int (Int32.ofNat (bcl + 1))), (.ref bs)])) rfl rfl (hb hby dla_104) _ q) ?_
          show Rch p ev below _ T111 (mkF m 105 #[.val (.ref so), .val (.int (Int32.ofNat jj))] [(.long (own_L ((own_F A.toInt B.toInt e N) - (own_F A.toInt B.toInt e (N - bcl))))), (.int (Int32.ofNat (bcl + 1))), (.ref bs)])
          refine Rch.go (fun _ q => XS.aloadN X111.here hx rfl (hb hby dla_105) rfl rfl q) ?_
          show Rch p ev below _ T111 (mkF m 106 #[.val (.ref so), .val (.int (Int32.ofNat jj))] [(.ref so), (.long (own_L ((own_F A.toInt B.toInt e N) - (own_F A.toInt B.toInt e (N - bcl))))), (.int (Int32.ofNat (bcl + 1))), (.ref bs)])
          obtain ⟨T112, X112, e112, st112⟩ := getF X111 hx hZ hown (host := "") (Or.inl (hw _ (List.mem_of_getElem? (i := 22) rfl))) Via.refl e111 (Wl.2.1 0 _ _ _ rfl rfl) (g := (mkF m 106 #[.val (.ref so), .val (.int (Int32.ofNat jj))] [(.ref so), (.long (own_L ((own_F A.toInt B.toInt e N) - (own_F A.toInt B.toInt e (N - bcl))))), (.int (Int32.ofNat (bcl + 1))), (.ref bs)])) rfl rfl (hb hby dla_106)
          refine Rch.go st112 ?_
          show Rch p ev below _ T112 (mkF m 109 #[.val (.ref so), .val (.int (Int32.ofNat jj))] [(.ref rs), (.long (own_L ((own_F A.toInt B.toInt e N) - (own_F A.toInt B.toInt e (N - bcl))))), (.int (Int32.ofNat (bcl + 1))), (.ref bs)])
          refine Rch.go (fun _ q => XS.aloadN X112.here hx rfl (hb hby dla_109) rfl rfl q) ?_
          show Rch p ev below _ T112 (mkF m 110 #[.val (.ref so), .val (.int (Int32.ofNat jj))] [(.ref so), (.ref rs), (.long (own_L ((own_F A.toInt B.toInt e N) - (own_F A.toInt B.toInt e (N - bcl))))), (.int (Int32.ofNat (bcl + 1))), (.ref bs)])
          obtain ⟨T113, X113, e113, st113⟩ := getF X112 hx hZ hown (host := "") (Or.inl (hw _ (List.mem_of_getElem? (i := 39) rfl))) Via.refl e112 (Wl.2.1 10 _ _ _ rfl rfl) (g := (mkF m 110 #[.val (.ref so), .val (.int (Int32.ofNat jj))] [(.ref so), (.ref rs), (.long (own_L ((own_F A.toInt B.toInt e N) - (own_F A.toInt B.toInt e (N - bcl))))), (.int (Int32.ofNat (bcl + 1))), (.ref bs)])) rfl rfl (hb hby dla_110)
          refine Rch.go st113 ?_
          show Rch p ev below _ T113 (mkF m 113 #[.val (.ref so), .val (.int (Int32.ofNat jj))] [(.int (0 : Int32)), (.ref rs), (.long (own_L ((own_F A.toInt B.toInt e N) - (own_F A.toInt B.toInt e (N - bcl))))), (.int (Int32.ofNat (bcl + 1))), (.ref bs)])
          refine Rch.go (fun _ q => ldI X113 hx hZ e113 Wl.2.2.1 (j := (0 : Int32)) (v := (.int A)) (by decide) r0 (g := (mkF m 113 #[.val (.ref so), .val (.int (Int32.ofNat jj))] [(.int (0 : Int32)), (.ref rs), (.long (own_L ((own_F A.toInt B.toInt e N) - (own_F A.toInt B.toInt e (N - bcl))))), (.int (Int32.ofNat (bcl + 1))), (.ref bs)])) rfl rfl (hb hby dla_113) _ q) ?_
          show Rch p ev below _ T113 (mkF m 114 #[.val (.ref so), .val (.int (Int32.ofNat jj))] [(.int A), (.long (own_L ((own_F A.toInt B.toInt e N) - (own_F A.toInt B.toInt e (N - bcl))))), (.int (Int32.ofNat (bcl + 1))), (.ref bs)])
          refine Rch.go (fun _ q => XS.i2l X113.here hx rfl (hb hby dla_114) rfl q) ?_
          show Rch p ev below _ T113 (mkF m 115 #[.val (.ref so), .val (.int (Int32.ofNat jj))] [(.long (A.toInt64)), (.long (own_L ((own_F A.toInt B.toInt e N) - (own_F A.toInt B.toInt e (N - bcl))))), (.int (Int32.ofNat (bcl + 1))), (.ref bs)])
          refine Rch.go (fun _ q => XS.ladd X113.here hx rfl (hb hby dla_115) rfl q) ?_
          show Rch p ev below _ T113 (mkF m 116 #[.val (.ref so), .val (.int (Int32.ofNat jj))] [(.long ((own_L ((own_F A.toInt B.toInt e N) - (own_F A.toInt B.toInt e (N - bcl)))) + (A.toInt64))), (.int (Int32.ofNat (bcl + 1))), (.ref bs)])
          have hstep : (own_F A.toInt B.toInt e (N - bcl)) = (own_F A.toInt B.toInt e (N - (bcl + 1))) + A.toInt := by
            have q : N - bcl = (N - (bcl + 1)) + 1 := by omega
            rw [q, own_F, if_pos (by omega)]
          rw [show (own_L ((own_F A.toInt B.toInt e N) - (own_F A.toInt B.toInt e (N - bcl))) + (A.toInt64)) = (own_L ((own_F A.toInt B.toInt e N) - (own_F A.toInt B.toInt e (N - (bcl + 1))))) from (by rw [own_L_i2l, own_L_add]; congr 1; omega)]
          show Rch p ev below _ T113 (mkF m 116 #[.val (.ref so), .val (.int (Int32.ofNat jj))] [(.long (own_L ((own_F A.toInt B.toInt e N) - (own_F A.toInt B.toInt e (N - (bcl + 1)))))), (.int (Int32.ofNat (bcl + 1))), (.ref bs)])
          obtain ⟨T114, h114, X114, e114, W114, V114, st114⟩ := sdJ X113 hx hZ e113 Wl.2.2.2.2.2.1 (j := (Int32.ofNat (bcl + 1))) (own_in_N (by omega) (by omega)) (bcl + 1) (own_nat_N (by omega)) (by rw [hc3]; omega) (g := (mkF m 116 #[.val (.ref so), .val (.int (Int32.ofNat jj))] [(.long (own_L ((own_F A.toInt B.toInt e N) - (own_F A.toInt B.toInt e (N - (bcl + 1)))))), (.int (Int32.ofNat (bcl + 1))), (.ref bs)])) rfl rfl (hb hby dla_116)
          have N114 := Fr.snoc X114 Nl Wl.2.2.2.2.2.2.1.2.2.2.2.1
          have WW114 : own_W Z h114 n0 so rs rt fs bs kr kt kf kb rl tl fl (bll.set (bcl + 1) (.long (own_L ((own_F A.toInt B.toInt e N) - (own_F A.toInt B.toInt e (N - (bcl + 1))))))) zl [(.ref rs), (.ref rt), (.int rc), (.int (Int32.ofNat N)), (.long sm), (.ref fs), (.int (Int32.ofNat fc)), (.int fr), (.ref bs), (.int (Int32.ofNat bcl)), (.int (0 : Int32)), (.int los), (.int lo), (.long gb), (.long ga)] := own_W_bs Wl W114 V114
          refine Rch.go st114 ?_
          show Rch p ev below _ T114 (mkF m 117 #[.val (.ref so), .val (.int (Int32.ofNat jj))] [])
          refine Rch.go (fun _ q => XS.aloadN X114.here hx rfl (hb hby dla_117) rfl rfl q) ?_
          show Rch p ev below _ T114 (mkF m 118 #[.val (.ref so), .val (.int (Int32.ofNat jj))] [(.ref so)])
          refine Rch.go (fun _ q => XS.dup X114.here hx rfl (hb hby dla_118) rfl rfl q) ?_
          show Rch p ev below _ T114 (mkF m 119 #[.val (.ref so), .val (.int (Int32.ofNat jj))] [(.ref so), (.ref so)])
          obtain ⟨T115, X115, e115, st115⟩ := getF X114 hx hZ hown (host := "") (Or.inl (hw _ (List.mem_of_getElem? (i := 37) rfl))) Via.refl e114 (WW114.2.1 9 _ _ _ rfl rfl) (g := (mkF m 119 #[.val (.ref so), .val (.int (Int32.ofNat jj))] [(.ref so), (.ref so)])) rfl rfl (hb hby dla_119)
          refine Rch.go st115 ?_
          show Rch p ev below _ T115 (mkF m 122 #[.val (.ref so), .val (.int (Int32.ofNat jj))] [(.int (Int32.ofNat bcl)), (.ref so)])
          refine Rch.go (fun _ q => XS.iconst X115.here hx rfl (hb hby dla_122) q) ?_
          show Rch p ev below _ T115 (mkF m 123 #[.val (.ref so), .val (.int (Int32.ofNat jj))] [(.int (1 : Int32)), (.int (Int32.ofNat bcl)), (.ref so)])
          refine Rch.go (fun _ q => XS.iadd X115.here hx rfl (hb hby dla_123) rfl q) ?_
          show Rch p ev below _ T115 (mkF m 124 #[.val (.ref so), .val (.int (Int32.ofNat jj))] [(.int ((Int32.ofNat bcl) + (1 : Int32))), (.ref so)])
          rw [show (Int32.ofNat bcl + (1 : Int32)) = (Int32.ofNat (bcl + 1)) from (own_add1_N (by omega))]
          show Rch p ev below _ T115 (mkF m 124 #[.val (.ref so), .val (.int (Int32.ofNat jj))] [(.int (Int32.ofNat (bcl + 1))), (.ref so)])
          obtain ⟨T116, h116, X116, e116, W116, st116⟩ := putF X115 hx hZ hown (host := "") (Or.inl (hw _ (List.mem_of_getElem? (i := 37) rfl))) Via.refl e115 (WW114.2.1 9 _ _ _ rfl rfl) WW114.1 (Or.inl (hw _ (List.mem_of_getElem? (i := 38) rfl))) (hw _ (List.mem_of_getElem? (i := 8) rfl)) (ty := .int) (by decide) rfl rfl (g := (mkF m 124 #[.val (.ref so), .val (.int (Int32.ofNat jj))] [(.int (Int32.ofNat (bcl + 1))), (.ref so)])) rfl rfl (hb hby dla_124)
          have N116 := Fr.snoc X116 N114 WW114.2.2.2.2.2.2.1.1
          have Z116 : n0 ≤ h116.size := by rw [W116.size]; exact WW114.2.2.2.2.2.2.1.2.2.2.2.2
          refine Rch.go st116 ?_
          show Rch p ev below _ T116 (mkF m 127 #[.val (.ref so), .val (.int (Int32.ofNat jj))] [])
          have WW116 : own_W Z h116 n0 so rs rt fs bs kr kt kf kb rl tl fl (bll.set (bcl + 1) (.long (own_L ((own_F A.toInt B.toInt e N) - (own_F A.toInt B.toInt e (N - (bcl + 1))))))) zl [(.ref rs), (.ref rt), (.int rc), (.int (Int32.ofNat N)), (.long sm), (.ref fs), (.int (Int32.ofNat fc)), (.int fr), (.ref bs), (.int (Int32.ofNat (bcl + 1))), (.int (0 : Int32)), (.int los), (.int lo), (.long gb), (.long ga)] := own_W_put hw WW114 9 rfl W116
          refine Rch.go (fun _ q => XS.goto X116.here hx rfl (pc0 := 127) (pc' := 47) rfl (hb hby dla_127) (by decide) (by decide) q) ?_
          show Rch p ev below _ T116 (mkF m 47 #[.val (.ref so), .val (.int (Int32.ofNat jj))] [])
          exact ih _ _ _ (bcl + 1) (0 : Int32) _ X116 e116 N116 WW116 ⟨by omega, Or.inl ⟨hr, rfl⟩, by rw [List.length_set]; exact hc3, fun i hi => by
            rw [own_getD_set _ _ _ _ _ (by rw [hc3]; omega)]
            by_cases q : i = bcl + 1
            · rw [if_pos q, q]
            · rw [if_neg q]; exact hvals i (by omega)⟩ (by omega)
        · subst hbr
          have hen : e < N := by rcases hrc with ⟨q, q2⟩ | ⟨q, q2⟩; (rw [hr] at q; exact absurd q (by decide)); exact q2
          show Rch p ev below _ T103 (mkF m 55 #[.val (.ref so), .val (.int (Int32.ofNat jj))] [])
          refine Rch.go (fun _ q => XS.aloadN X103.here hx rfl (hb hby dla_55) rfl rfl q) ?_
          show Rch p ev below _ T103 (mkF m 56 #[.val (.ref so), .val (.int (Int32.ofNat jj))] [(.ref so)])
          obtain ⟨T117, X117, e117, st117⟩ := getF X103 hx hZ hown (host := "") (Or.inl (hw _ (List.mem_of_getElem? (i := 33) rfl))) Via.refl e103 (Wl.2.1 3 _ _ _ rfl rfl) (g := (mkF m 56 #[.val (.ref so), .val (.int (Int32.ofNat jj))] [(.ref so)])) rfl rfl (hb hby dla_56)
          refine Rch.go st117 ?_
          show Rch p ev below _ T117 (mkF m 59 #[.val (.ref so), .val (.int (Int32.ofNat jj))] [(.int (Int32.ofNat N))])
          refine Rch.go (fun _ q => XS.aloadN X117.here hx rfl (hb hby dla_59) rfl rfl q) ?_
          show Rch p ev below _ T117 (mkF m 60 #[.val (.ref so), .val (.int (Int32.ofNat jj))] [(.ref so), (.int (Int32.ofNat N))])
          obtain ⟨T118, X118, e118, st118⟩ := getF X117 hx hZ hown (host := "") (Or.inl (hw _ (List.mem_of_getElem? (i := 37) rfl))) Via.refl e117 (Wl.2.1 9 _ _ _ rfl rfl) (g := (mkF m 60 #[.val (.ref so), .val (.int (Int32.ofNat jj))] [(.ref so), (.int (Int32.ofNat N))])) rfl rfl (hb hby dla_60)
          refine Rch.go st118 ?_
          show Rch p ev below _ T118 (mkF m 63 #[.val (.ref so), .val (.int (Int32.ofNat jj))] [(.int (Int32.ofNat bcl)), (.int (Int32.ofNat N))])
          refine Rch.go (fun _ q => XS.isub X118.here hx rfl (hb hby dla_63) rfl q) ?_
          show Rch p ev below _ T118 (mkF m 64 #[.val (.ref so), .val (.int (Int32.ofNat jj))] [(.int ((Int32.ofNat N) - (Int32.ofNat bcl)))])
          rw [show (Int32.ofNat N - Int32.ofNat bcl) = (Int32.ofNat (N - bcl)) from (own_sub_N (by omega) (by omega))]
          show Rch p ev below _ T118 (mkF m 64 #[.val (.ref so), .val (.int (Int32.ofNat jj))] [(.int (Int32.ofNat (N - bcl)))])
          refine Rch.go (fun _ q => XS.aloadN X118.here hx rfl (hb hby dla_64) rfl rfl q) ?_
          show Rch p ev below _ T118 (mkF m 65 #[.val (.ref so), .val (.int (Int32.ofNat jj))] [(.ref so), (.int (Int32.ofNat (N - bcl)))])
          obtain ⟨T119, X119, e119, st119⟩ := getF X118 hx hZ hown (host := "") (Or.inl (hw _ (List.mem_of_getElem? (i := 24) rfl))) Via.refl e118 (Wl.2.1 1 _ _ _ rfl rfl) (g := (mkF m 65 #[.val (.ref so), .val (.int (Int32.ofNat jj))] [(.ref so), (.int (Int32.ofNat (N - bcl)))])) rfl rfl (hb hby dla_65)
          refine Rch.go st119 ?_
          show Rch p ev below _ T119 (mkF m 68 #[.val (.ref so), .val (.int (Int32.ofNat jj))] [(.ref rt), (.int (Int32.ofNat (N - bcl)))])
          refine Rch.go (fun _ q => XS.aloadN X119.here hx rfl (hb hby dla_68) rfl rfl q) ?_
          show Rch p ev below _ T119 (mkF m 69 #[.val (.ref so), .val (.int (Int32.ofNat jj))] [(.ref so), (.ref rt), (.int (Int32.ofNat (N - bcl)))])
          obtain ⟨T120, X120, e120, st120⟩ := getF X119 hx hZ hown (host := "") (Or.inl (hw _ (List.mem_of_getElem? (i := 39) rfl))) Via.refl e119 (Wl.2.1 10 _ _ _ rfl rfl) (g := (mkF m 69 #[.val (.ref so), .val (.int (Int32.ofNat jj))] [(.ref so), (.ref rt), (.int (Int32.ofNat (N - bcl)))])) rfl rfl (hb hby dla_69)
          refine Rch.go st120 ?_
          show Rch p ev below _ T120 (mkF m 72 #[.val (.ref so), .val (.int (Int32.ofNat jj))] [(.int (1 : Int32)), (.ref rt), (.int (Int32.ofNat (N - bcl)))])
          refine Rch.go (fun _ q => ldI X120 hx hZ e120 Wl.2.2.2.1 (j := (1 : Int32)) (v := (.int (Int32.ofNat e))) (by decide) (t1 hr) (g := (mkF m 72 #[.val (.ref so), .val (.int (Int32.ofNat jj))] [(.int (1 : Int32)), (.ref rt), (.int (Int32.ofNat (N - bcl)))])) rfl rfl (hb hby dla_72) _ q) ?_
          show Rch p ev below _ T120 (mkF m 73 #[.val (.ref so), .val (.int (Int32.ofNat jj))] [(.int (Int32.ofNat e)), (.int (Int32.ofNat (N - bcl)))])
          by_cases hc73 : N - bcl = e
          · skip
            refine Rch.go (fun _ q => XS.icmpNo X120.here hx rfl (hb hby dla_73) rfl (teq (((own_eq_N (a := N - bcl) (b := e) (by omega) (by omega)).mpr hc73))).2 q) ?_
            show Rch p ev below _ T120 (mkF m 76 #[.val (.ref so), .val (.int (Int32.ofNat jj))] [])
            refine Rch.go (fun _ q => XS.aloadN X120.here hx rfl (hb hby dla_76) rfl rfl q) ?_
            show Rch p ev below _ T120 (mkF m 77 #[.val (.ref so), .val (.int (Int32.ofNat jj))] [(.ref so)])
            refine Rch.go (fun _ q => XS.dup X120.here hx rfl (hb hby dla_77) rfl rfl q) ?_
            show Rch p ev below _ T120 (mkF m 78 #[.val (.ref so), .val (.int (Int32.ofNat jj))] [(.ref so), (.ref so)])
            obtain ⟨T121, X121, e121, st121⟩ := getF X120 hx hZ hown (host := "") (Or.inl (hw _ (List.mem_of_getElem? (i := 39) rfl))) Via.refl e120 (Wl.2.1 10 _ _ _ rfl rfl) (g := (mkF m 78 #[.val (.ref so), .val (.int (Int32.ofNat jj))] [(.ref so), (.ref so)])) rfl rfl (hb hby dla_78)
            refine Rch.go st121 ?_
            show Rch p ev below _ T121 (mkF m 81 #[.val (.ref so), .val (.int (Int32.ofNat jj))] [(.int (1 : Int32)), (.ref so)])
            refine Rch.go (fun _ q => XS.iconst X121.here hx rfl (hb hby dla_81) q) ?_
            show Rch p ev below _ T121 (mkF m 82 #[.val (.ref so), .val (.int (Int32.ofNat jj))] [(.int (1 : Int32)), (.int (1 : Int32)), (.ref so)])
            refine Rch.go (fun _ q => XS.isub X121.here hx rfl (hb hby dla_82) rfl q) ?_
            show Rch p ev below _ T121 (mkF m 83 #[.val (.ref so), .val (.int (Int32.ofNat jj))] [(.int ((1 : Int32) - (1 : Int32))), (.ref so)])
            rw [show ((1 : Int32) - (1 : Int32)) = (0 : Int32) from (by decide)]
            show Rch p ev below _ T121 (mkF m 83 #[.val (.ref so), .val (.int (Int32.ofNat jj))] [(.int (0 : Int32)), (.ref so)])
            obtain ⟨T122, h122, X122, e122, W122, st122⟩ := putF X121 hx hZ hown (host := "") (Or.inl (hw _ (List.mem_of_getElem? (i := 39) rfl))) Via.refl e121 (Wl.2.1 10 _ _ _ rfl rfl) Wl.1 (Or.inl (hw _ (List.mem_of_getElem? (i := 40) rfl))) (hw _ (List.mem_of_getElem? (i := 8) rfl)) (ty := .int) (by decide) rfl rfl (g := (mkF m 83 #[.val (.ref so), .val (.int (Int32.ofNat jj))] [(.int (0 : Int32)), (.ref so)])) rfl rfl (hb hby dla_83)
            have N122 := Fr.snoc X122 Nl Wl.2.2.2.2.2.2.1.1
            have Z122 : n0 ≤ h122.size := by rw [W122.size]; exact Wl.2.2.2.2.2.2.1.2.2.2.2.2
            refine Rch.go st122 ?_
            show Rch p ev below _ T122 (mkF m 86 #[.val (.ref so), .val (.int (Int32.ofNat jj))] [])
            have WW122 : own_W Z h122 n0 so rs rt fs bs kr kt kf kb rl tl fl bll zl [(.ref rs), (.ref rt), (.int rc), (.int (Int32.ofNat N)), (.long sm), (.ref fs), (.int (Int32.ofNat fc)), (.int fr), (.ref bs), (.int (Int32.ofNat bcl)), (.int (0 : Int32)), (.int los), (.int lo), (.long gb), (.long ga)] := own_W_put hw Wl 10 rfl W122
            refine Rch.go (fun _ q => XS.aloadN X122.here hx rfl (hb hby dla_86) rfl rfl q) ?_
            show Rch p ev below _ T122 (mkF m 87 #[.val (.ref so), .val (.int (Int32.ofNat jj))] [(.ref so)])
            obtain ⟨T123, X123, e123, st123⟩ := getF X122 hx hZ hown (host := "") (Or.inl (hw _ (List.mem_of_getElem? (i := 19) rfl))) Via.refl e122 (WW122.2.1 8 _ _ _ rfl rfl) (g := (mkF m 87 #[.val (.ref so), .val (.int (Int32.ofNat jj))] [(.ref so)])) rfl rfl (hb hby dla_87)
            refine Rch.go st123 ?_
            show Rch p ev below _ T123 (mkF m 90 #[.val (.ref so), .val (.int (Int32.ofNat jj))] [(.ref bs)])
            refine Rch.go (fun _ q => XS.aloadN X123.here hx rfl (hb hby dla_90) rfl rfl q) ?_
            show Rch p ev below _ T123 (mkF m 91 #[.val (.ref so), .val (.int (Int32.ofNat jj))] [(.ref so), (.ref bs)])
            obtain ⟨T124, X124, e124, st124⟩ := getF X123 hx hZ hown (host := "") (Or.inl (hw _ (List.mem_of_getElem? (i := 37) rfl))) Via.refl e123 (WW122.2.1 9 _ _ _ rfl rfl) (g := (mkF m 91 #[.val (.ref so), .val (.int (Int32.ofNat jj))] [(.ref so), (.ref bs)])) rfl rfl (hb hby dla_91)
            refine Rch.go st124 ?_
            show Rch p ev below _ T124 (mkF m 94 #[.val (.ref so), .val (.int (Int32.ofNat jj))] [(.int (Int32.ofNat bcl)), (.ref bs)])
            refine Rch.go (fun _ q => XS.iconst X124.here hx rfl (hb hby dla_94) q) ?_
            show Rch p ev below _ T124 (mkF m 95 #[.val (.ref so), .val (.int (Int32.ofNat jj))] [(.int (1 : Int32)), (.int (Int32.ofNat bcl)), (.ref bs)])
            refine Rch.go (fun _ q => XS.iadd X124.here hx rfl (hb hby dla_95) rfl q) ?_
            show Rch p ev below _ T124 (mkF m 96 #[.val (.ref so), .val (.int (Int32.ofNat jj))] [(.int ((Int32.ofNat bcl) + (1 : Int32))), (.ref bs)])
            rw [show (Int32.ofNat bcl + (1 : Int32)) = (Int32.ofNat (bcl + 1)) from (own_add1_N (by omega))]
            show Rch p ev below _ T124 (mkF m 96 #[.val (.ref so), .val (.int (Int32.ofNat jj))] [(.int (Int32.ofNat (bcl + 1))), (.ref bs)])
            refine Rch.go (fun _ q => XS.aloadN X124.here hx rfl (hb hby dla_96) rfl rfl q) ?_
            show Rch p ev below _ T124 (mkF m 97 #[.val (.ref so), .val (.int (Int32.ofNat jj))] [(.ref so), (.int (Int32.ofNat (bcl + 1))), (.ref bs)])
            obtain ⟨T125, X125, e125, st125⟩ := getF X124 hx hZ hown (host := "") (Or.inl (hw _ (List.mem_of_getElem? (i := 19) rfl))) Via.refl e124 (WW122.2.1 8 _ _ _ rfl rfl) (g := (mkF m 97 #[.val (.ref so), .val (.int (Int32.ofNat jj))] [(.ref so), (.int (Int32.ofNat (bcl + 1))), (.ref bs)])) rfl rfl (hb hby dla_97)
            refine Rch.go st125 ?_
            show Rch p ev below _ T125 (mkF m 100 #[.val (.ref so), .val (.int (Int32.ofNat jj))] [(.ref bs), (.int (Int32.ofNat (bcl + 1))), (.ref bs)])
            refine Rch.go (fun _ q => XS.aloadN X125.here hx rfl (hb hby dla_100) rfl rfl q) ?_
            show Rch p ev below _ T125 (mkF m 101 #[.val (.ref so), .val (.int (Int32.ofNat jj))] [(.ref so), (.ref bs), (.int (Int32.ofNat (bcl + 1))), (.ref bs)])
            obtain ⟨T126, X126, e126, st126⟩ := getF X125 hx hZ hown (host := "") (Or.inl (hw _ (List.mem_of_getElem? (i := 37) rfl))) Via.refl e125 (WW122.2.1 9 _ _ _ rfl rfl) (g := (mkF m 101 #[.val (.ref so), .val (.int (Int32.ofNat jj))] [(.ref so), (.ref bs), (.int (Int32.ofNat (bcl + 1))), (.ref bs)])) rfl rfl (hb hby dla_101)
            refine Rch.go st126 ?_
            show Rch p ev below _ T126 (mkF m 104 #[.val (.ref so), .val (.int (Int32.ofNat jj))] [(.int (Int32.ofNat bcl)), (.ref bs), (.int (Int32.ofNat (bcl + 1))), (.ref bs)])
            refine Rch.go (fun _ q => ldJ X126 hx hZ e126 WW122.2.2.2.2.2.1 (j := (Int32.ofNat bcl)) (v := (.long (own_L ((own_F A.toInt B.toInt e N) - (own_F A.toInt B.toInt e (N - bcl)))))) (own_in_N (by omega) (by omega)) (by rw [own_nat_N (by omega)]; exact hvals bcl (Nat.le_refl _)) (g := (mkF m 104 #[.val (.ref so), .val (.int (Int32.ofNat jj))] [(.int (Int32.ofNat bcl)), (.ref bs), (.int (Int32.ofNat (bcl + 1))), (.ref bs)])) rfl rfl (hb hby dla_104) _ q) ?_
            show Rch p ev below _ T126 (mkF m 105 #[.val (.ref so), .val (.int (Int32.ofNat jj))] [(.long (own_L ((own_F A.toInt B.toInt e N) - (own_F A.toInt B.toInt e (N - bcl))))), (.int (Int32.ofNat (bcl + 1))), (.ref bs)])
            refine Rch.go (fun _ q => XS.aloadN X126.here hx rfl (hb hby dla_105) rfl rfl q) ?_
            show Rch p ev below _ T126 (mkF m 106 #[.val (.ref so), .val (.int (Int32.ofNat jj))] [(.ref so), (.long (own_L ((own_F A.toInt B.toInt e N) - (own_F A.toInt B.toInt e (N - bcl))))), (.int (Int32.ofNat (bcl + 1))), (.ref bs)])
            obtain ⟨T127, X127, e127, st127⟩ := getF X126 hx hZ hown (host := "") (Or.inl (hw _ (List.mem_of_getElem? (i := 22) rfl))) Via.refl e126 (WW122.2.1 0 _ _ _ rfl rfl) (g := (mkF m 106 #[.val (.ref so), .val (.int (Int32.ofNat jj))] [(.ref so), (.long (own_L ((own_F A.toInt B.toInt e N) - (own_F A.toInt B.toInt e (N - bcl))))), (.int (Int32.ofNat (bcl + 1))), (.ref bs)])) rfl rfl (hb hby dla_106)
            refine Rch.go st127 ?_
            show Rch p ev below _ T127 (mkF m 109 #[.val (.ref so), .val (.int (Int32.ofNat jj))] [(.ref rs), (.long (own_L ((own_F A.toInt B.toInt e N) - (own_F A.toInt B.toInt e (N - bcl))))), (.int (Int32.ofNat (bcl + 1))), (.ref bs)])
            refine Rch.go (fun _ q => XS.aloadN X127.here hx rfl (hb hby dla_109) rfl rfl q) ?_
            show Rch p ev below _ T127 (mkF m 110 #[.val (.ref so), .val (.int (Int32.ofNat jj))] [(.ref so), (.ref rs), (.long (own_L ((own_F A.toInt B.toInt e N) - (own_F A.toInt B.toInt e (N - bcl))))), (.int (Int32.ofNat (bcl + 1))), (.ref bs)])
            obtain ⟨T128, X128, e128, st128⟩ := getF X127 hx hZ hown (host := "") (Or.inl (hw _ (List.mem_of_getElem? (i := 39) rfl))) Via.refl e127 (WW122.2.1 10 _ _ _ rfl rfl) (g := (mkF m 110 #[.val (.ref so), .val (.int (Int32.ofNat jj))] [(.ref so), (.ref rs), (.long (own_L ((own_F A.toInt B.toInt e N) - (own_F A.toInt B.toInt e (N - bcl))))), (.int (Int32.ofNat (bcl + 1))), (.ref bs)])) rfl rfl (hb hby dla_110)
            refine Rch.go st128 ?_
            show Rch p ev below _ T128 (mkF m 113 #[.val (.ref so), .val (.int (Int32.ofNat jj))] [(.int (0 : Int32)), (.ref rs), (.long (own_L ((own_F A.toInt B.toInt e N) - (own_F A.toInt B.toInt e (N - bcl))))), (.int (Int32.ofNat (bcl + 1))), (.ref bs)])
            refine Rch.go (fun _ q => ldI X128 hx hZ e128 WW122.2.2.1 (j := (0 : Int32)) (v := (.int A)) (by decide) r0 (g := (mkF m 113 #[.val (.ref so), .val (.int (Int32.ofNat jj))] [(.int (0 : Int32)), (.ref rs), (.long (own_L ((own_F A.toInt B.toInt e N) - (own_F A.toInt B.toInt e (N - bcl))))), (.int (Int32.ofNat (bcl + 1))), (.ref bs)])) rfl rfl (hb hby dla_113) _ q) ?_
            show Rch p ev below _ T128 (mkF m 114 #[.val (.ref so), .val (.int (Int32.ofNat jj))] [(.int A), (.long (own_L ((own_F A.toInt B.toInt e N) - (own_F A.toInt B.toInt e (N - bcl))))), (.int (Int32.ofNat (bcl + 1))), (.ref bs)])
            refine Rch.go (fun _ q => XS.i2l X128.here hx rfl (hb hby dla_114) rfl q) ?_
            show Rch p ev below _ T128 (mkF m 115 #[.val (.ref so), .val (.int (Int32.ofNat jj))] [(.long (A.toInt64)), (.long (own_L ((own_F A.toInt B.toInt e N) - (own_F A.toInt B.toInt e (N - bcl))))), (.int (Int32.ofNat (bcl + 1))), (.ref bs)])
            refine Rch.go (fun _ q => XS.ladd X128.here hx rfl (hb hby dla_115) rfl q) ?_
            show Rch p ev below _ T128 (mkF m 116 #[.val (.ref so), .val (.int (Int32.ofNat jj))] [(.long ((own_L ((own_F A.toInt B.toInt e N) - (own_F A.toInt B.toInt e (N - bcl)))) + (A.toInt64))), (.int (Int32.ofNat (bcl + 1))), (.ref bs)])
            have hstep : (own_F A.toInt B.toInt e (N - bcl)) = (own_F A.toInt B.toInt e (N - (bcl + 1))) + A.toInt := by
              have q : N - bcl = (N - (bcl + 1)) + 1 := by omega
              rw [q, own_F, if_pos (by omega)]
            rw [show (own_L ((own_F A.toInt B.toInt e N) - (own_F A.toInt B.toInt e (N - bcl))) + (A.toInt64)) = (own_L ((own_F A.toInt B.toInt e N) - (own_F A.toInt B.toInt e (N - (bcl + 1))))) from (by rw [own_L_i2l, own_L_add]; congr 1; omega)]
            show Rch p ev below _ T128 (mkF m 116 #[.val (.ref so), .val (.int (Int32.ofNat jj))] [(.long (own_L ((own_F A.toInt B.toInt e N) - (own_F A.toInt B.toInt e (N - (bcl + 1)))))), (.int (Int32.ofNat (bcl + 1))), (.ref bs)])
            obtain ⟨T129, h129, X129, e129, W129, V129, st129⟩ := sdJ X128 hx hZ e128 WW122.2.2.2.2.2.1 (j := (Int32.ofNat (bcl + 1))) (own_in_N (by omega) (by omega)) (bcl + 1) (own_nat_N (by omega)) (by rw [hc3]; omega) (g := (mkF m 116 #[.val (.ref so), .val (.int (Int32.ofNat jj))] [(.long (own_L ((own_F A.toInt B.toInt e N) - (own_F A.toInt B.toInt e (N - (bcl + 1)))))), (.int (Int32.ofNat (bcl + 1))), (.ref bs)])) rfl rfl (hb hby dla_116)
            have N129 := Fr.snoc X129 N122 WW122.2.2.2.2.2.2.1.2.2.2.2.1
            have WW129 : own_W Z h129 n0 so rs rt fs bs kr kt kf kb rl tl fl (bll.set (bcl + 1) (.long (own_L ((own_F A.toInt B.toInt e N) - (own_F A.toInt B.toInt e (N - (bcl + 1))))))) zl [(.ref rs), (.ref rt), (.int rc), (.int (Int32.ofNat N)), (.long sm), (.ref fs), (.int (Int32.ofNat fc)), (.int fr), (.ref bs), (.int (Int32.ofNat bcl)), (.int (0 : Int32)), (.int los), (.int lo), (.long gb), (.long ga)] := own_W_bs WW122 W129 V129
            refine Rch.go st129 ?_
            show Rch p ev below _ T129 (mkF m 117 #[.val (.ref so), .val (.int (Int32.ofNat jj))] [])
            refine Rch.go (fun _ q => XS.aloadN X129.here hx rfl (hb hby dla_117) rfl rfl q) ?_
            show Rch p ev below _ T129 (mkF m 118 #[.val (.ref so), .val (.int (Int32.ofNat jj))] [(.ref so)])
            refine Rch.go (fun _ q => XS.dup X129.here hx rfl (hb hby dla_118) rfl rfl q) ?_
            show Rch p ev below _ T129 (mkF m 119 #[.val (.ref so), .val (.int (Int32.ofNat jj))] [(.ref so), (.ref so)])
            obtain ⟨T130, X130, e130, st130⟩ := getF X129 hx hZ hown (host := "") (Or.inl (hw _ (List.mem_of_getElem? (i := 37) rfl))) Via.refl e129 (WW129.2.1 9 _ _ _ rfl rfl) (g := (mkF m 119 #[.val (.ref so), .val (.int (Int32.ofNat jj))] [(.ref so), (.ref so)])) rfl rfl (hb hby dla_119)
            refine Rch.go st130 ?_
            show Rch p ev below _ T130 (mkF m 122 #[.val (.ref so), .val (.int (Int32.ofNat jj))] [(.int (Int32.ofNat bcl)), (.ref so)])
            refine Rch.go (fun _ q => XS.iconst X130.here hx rfl (hb hby dla_122) q) ?_
            show Rch p ev below _ T130 (mkF m 123 #[.val (.ref so), .val (.int (Int32.ofNat jj))] [(.int (1 : Int32)), (.int (Int32.ofNat bcl)), (.ref so)])
            refine Rch.go (fun _ q => XS.iadd X130.here hx rfl (hb hby dla_123) rfl q) ?_
            show Rch p ev below _ T130 (mkF m 124 #[.val (.ref so), .val (.int (Int32.ofNat jj))] [(.int ((Int32.ofNat bcl) + (1 : Int32))), (.ref so)])
            rw [show (Int32.ofNat bcl + (1 : Int32)) = (Int32.ofNat (bcl + 1)) from (own_add1_N (by omega))]
            show Rch p ev below _ T130 (mkF m 124 #[.val (.ref so), .val (.int (Int32.ofNat jj))] [(.int (Int32.ofNat (bcl + 1))), (.ref so)])
            obtain ⟨T131, h131, X131, e131, W131, st131⟩ := putF X130 hx hZ hown (host := "") (Or.inl (hw _ (List.mem_of_getElem? (i := 37) rfl))) Via.refl e130 (WW129.2.1 9 _ _ _ rfl rfl) WW129.1 (Or.inl (hw _ (List.mem_of_getElem? (i := 38) rfl))) (hw _ (List.mem_of_getElem? (i := 8) rfl)) (ty := .int) (by decide) rfl rfl (g := (mkF m 124 #[.val (.ref so), .val (.int (Int32.ofNat jj))] [(.int (Int32.ofNat (bcl + 1))), (.ref so)])) rfl rfl (hb hby dla_124)
            have N131 := Fr.snoc X131 N129 WW129.2.2.2.2.2.2.1.1
            have Z131 : n0 ≤ h131.size := by rw [W131.size]; exact WW129.2.2.2.2.2.2.1.2.2.2.2.2
            refine Rch.go st131 ?_
            show Rch p ev below _ T131 (mkF m 127 #[.val (.ref so), .val (.int (Int32.ofNat jj))] [])
            have WW131 : own_W Z h131 n0 so rs rt fs bs kr kt kf kb rl tl fl (bll.set (bcl + 1) (.long (own_L ((own_F A.toInt B.toInt e N) - (own_F A.toInt B.toInt e (N - (bcl + 1))))))) zl [(.ref rs), (.ref rt), (.int rc), (.int (Int32.ofNat N)), (.long sm), (.ref fs), (.int (Int32.ofNat fc)), (.int fr), (.ref bs), (.int (Int32.ofNat (bcl + 1))), (.int (0 : Int32)), (.int los), (.int lo), (.long gb), (.long ga)] := own_W_put hw WW129 9 rfl W131
            refine Rch.go (fun _ q => XS.goto X131.here hx rfl (pc0 := 127) (pc' := 47) rfl (hb hby dla_127) (by decide) (by decide) q) ?_
            show Rch p ev below _ T131 (mkF m 47 #[.val (.ref so), .val (.int (Int32.ofNat jj))] [])
            exact ih _ _ _ (bcl + 1) (0 : Int32) _ X131 e131 N131 WW131 ⟨by omega, Or.inr ⟨hr, Or.inr ⟨rfl, by omega⟩⟩, by rw [List.length_set]; exact hc3, fun i hi => by
              rw [own_getD_set _ _ _ _ _ (by rw [hc3]; omega)]
              by_cases q : i = bcl + 1
              · rw [if_pos q, q]
              · rw [if_neg q]; exact hvals i (by omega)⟩ (by omega)
          · skip
            refine Rch.go (fun _ q => XS.icmpYes X120.here hx rfl (pc0 := 73) (pc' := 86) rfl (hb hby dla_73) rfl (feq ((mt (own_eq_N (a := N - bcl) (b := e) (by omega) (by omega)).mp hc73))).2 (by decide) (by decide) q) ?_
            show Rch p ev below _ T120 (mkF m 86 #[.val (.ref so), .val (.int (Int32.ofNat jj))] [])
            refine Rch.go (fun _ q => XS.aloadN X120.here hx rfl (hb hby dla_86) rfl rfl q) ?_
            show Rch p ev below _ T120 (mkF m 87 #[.val (.ref so), .val (.int (Int32.ofNat jj))] [(.ref so)])
            obtain ⟨T132, X132, e132, st132⟩ := getF X120 hx hZ hown (host := "") (Or.inl (hw _ (List.mem_of_getElem? (i := 19) rfl))) Via.refl e120 (Wl.2.1 8 _ _ _ rfl rfl) (g := (mkF m 87 #[.val (.ref so), .val (.int (Int32.ofNat jj))] [(.ref so)])) rfl rfl (hb hby dla_87)
            refine Rch.go st132 ?_
            show Rch p ev below _ T132 (mkF m 90 #[.val (.ref so), .val (.int (Int32.ofNat jj))] [(.ref bs)])
            refine Rch.go (fun _ q => XS.aloadN X132.here hx rfl (hb hby dla_90) rfl rfl q) ?_
            show Rch p ev below _ T132 (mkF m 91 #[.val (.ref so), .val (.int (Int32.ofNat jj))] [(.ref so), (.ref bs)])
            obtain ⟨T133, X133, e133, st133⟩ := getF X132 hx hZ hown (host := "") (Or.inl (hw _ (List.mem_of_getElem? (i := 37) rfl))) Via.refl e132 (Wl.2.1 9 _ _ _ rfl rfl) (g := (mkF m 91 #[.val (.ref so), .val (.int (Int32.ofNat jj))] [(.ref so), (.ref bs)])) rfl rfl (hb hby dla_91)
            refine Rch.go st133 ?_
            show Rch p ev below _ T133 (mkF m 94 #[.val (.ref so), .val (.int (Int32.ofNat jj))] [(.int (Int32.ofNat bcl)), (.ref bs)])
            refine Rch.go (fun _ q => XS.iconst X133.here hx rfl (hb hby dla_94) q) ?_
            show Rch p ev below _ T133 (mkF m 95 #[.val (.ref so), .val (.int (Int32.ofNat jj))] [(.int (1 : Int32)), (.int (Int32.ofNat bcl)), (.ref bs)])
            refine Rch.go (fun _ q => XS.iadd X133.here hx rfl (hb hby dla_95) rfl q) ?_
            show Rch p ev below _ T133 (mkF m 96 #[.val (.ref so), .val (.int (Int32.ofNat jj))] [(.int ((Int32.ofNat bcl) + (1 : Int32))), (.ref bs)])
            rw [show (Int32.ofNat bcl + (1 : Int32)) = (Int32.ofNat (bcl + 1)) from (own_add1_N (by omega))]
            show Rch p ev below _ T133 (mkF m 96 #[.val (.ref so), .val (.int (Int32.ofNat jj))] [(.int (Int32.ofNat (bcl + 1))), (.ref bs)])
            refine Rch.go (fun _ q => XS.aloadN X133.here hx rfl (hb hby dla_96) rfl rfl q) ?_
            show Rch p ev below _ T133 (mkF m 97 #[.val (.ref so), .val (.int (Int32.ofNat jj))] [(.ref so), (.int (Int32.ofNat (bcl + 1))), (.ref bs)])
            obtain ⟨T134, X134, e134, st134⟩ := getF X133 hx hZ hown (host := "") (Or.inl (hw _ (List.mem_of_getElem? (i := 19) rfl))) Via.refl e133 (Wl.2.1 8 _ _ _ rfl rfl) (g := (mkF m 97 #[.val (.ref so), .val (.int (Int32.ofNat jj))] [(.ref so), (.int (Int32.ofNat (bcl + 1))), (.ref bs)])) rfl rfl (hb hby dla_97)
            refine Rch.go st134 ?_
            show Rch p ev below _ T134 (mkF m 100 #[.val (.ref so), .val (.int (Int32.ofNat jj))] [(.ref bs), (.int (Int32.ofNat (bcl + 1))), (.ref bs)])
            refine Rch.go (fun _ q => XS.aloadN X134.here hx rfl (hb hby dla_100) rfl rfl q) ?_
            show Rch p ev below _ T134 (mkF m 101 #[.val (.ref so), .val (.int (Int32.ofNat jj))] [(.ref so), (.ref bs), (.int (Int32.ofNat (bcl + 1))), (.ref bs)])
            obtain ⟨T135, X135, e135, st135⟩ := getF X134 hx hZ hown (host := "") (Or.inl (hw _ (List.mem_of_getElem? (i := 37) rfl))) Via.refl e134 (Wl.2.1 9 _ _ _ rfl rfl) (g := (mkF m 101 #[.val (.ref so), .val (.int (Int32.ofNat jj))] [(.ref so), (.ref bs), (.int (Int32.ofNat (bcl + 1))), (.ref bs)])) rfl rfl (hb hby dla_101)
            refine Rch.go st135 ?_
            show Rch p ev below _ T135 (mkF m 104 #[.val (.ref so), .val (.int (Int32.ofNat jj))] [(.int (Int32.ofNat bcl)), (.ref bs), (.int (Int32.ofNat (bcl + 1))), (.ref bs)])
            refine Rch.go (fun _ q => ldJ X135 hx hZ e135 Wl.2.2.2.2.2.1 (j := (Int32.ofNat bcl)) (v := (.long (own_L ((own_F A.toInt B.toInt e N) - (own_F A.toInt B.toInt e (N - bcl)))))) (own_in_N (by omega) (by omega)) (by rw [own_nat_N (by omega)]; exact hvals bcl (Nat.le_refl _)) (g := (mkF m 104 #[.val (.ref so), .val (.int (Int32.ofNat jj))] [(.int (Int32.ofNat bcl)), (.ref bs), (.int (Int32.ofNat (bcl + 1))), (.ref bs)])) rfl rfl (hb hby dla_104) _ q) ?_
            show Rch p ev below _ T135 (mkF m 105 #[.val (.ref so), .val (.int (Int32.ofNat jj))] [(.long (own_L ((own_F A.toInt B.toInt e N) - (own_F A.toInt B.toInt e (N - bcl))))), (.int (Int32.ofNat (bcl + 1))), (.ref bs)])
            refine Rch.go (fun _ q => XS.aloadN X135.here hx rfl (hb hby dla_105) rfl rfl q) ?_
            show Rch p ev below _ T135 (mkF m 106 #[.val (.ref so), .val (.int (Int32.ofNat jj))] [(.ref so), (.long (own_L ((own_F A.toInt B.toInt e N) - (own_F A.toInt B.toInt e (N - bcl))))), (.int (Int32.ofNat (bcl + 1))), (.ref bs)])
            obtain ⟨T136, X136, e136, st136⟩ := getF X135 hx hZ hown (host := "") (Or.inl (hw _ (List.mem_of_getElem? (i := 22) rfl))) Via.refl e135 (Wl.2.1 0 _ _ _ rfl rfl) (g := (mkF m 106 #[.val (.ref so), .val (.int (Int32.ofNat jj))] [(.ref so), (.long (own_L ((own_F A.toInt B.toInt e N) - (own_F A.toInt B.toInt e (N - bcl))))), (.int (Int32.ofNat (bcl + 1))), (.ref bs)])) rfl rfl (hb hby dla_106)
            refine Rch.go st136 ?_
            show Rch p ev below _ T136 (mkF m 109 #[.val (.ref so), .val (.int (Int32.ofNat jj))] [(.ref rs), (.long (own_L ((own_F A.toInt B.toInt e N) - (own_F A.toInt B.toInt e (N - bcl))))), (.int (Int32.ofNat (bcl + 1))), (.ref bs)])
            refine Rch.go (fun _ q => XS.aloadN X136.here hx rfl (hb hby dla_109) rfl rfl q) ?_
            show Rch p ev below _ T136 (mkF m 110 #[.val (.ref so), .val (.int (Int32.ofNat jj))] [(.ref so), (.ref rs), (.long (own_L ((own_F A.toInt B.toInt e N) - (own_F A.toInt B.toInt e (N - bcl))))), (.int (Int32.ofNat (bcl + 1))), (.ref bs)])
            obtain ⟨T137, X137, e137, st137⟩ := getF X136 hx hZ hown (host := "") (Or.inl (hw _ (List.mem_of_getElem? (i := 39) rfl))) Via.refl e136 (Wl.2.1 10 _ _ _ rfl rfl) (g := (mkF m 110 #[.val (.ref so), .val (.int (Int32.ofNat jj))] [(.ref so), (.ref rs), (.long (own_L ((own_F A.toInt B.toInt e N) - (own_F A.toInt B.toInt e (N - bcl))))), (.int (Int32.ofNat (bcl + 1))), (.ref bs)])) rfl rfl (hb hby dla_110)
            refine Rch.go st137 ?_
            show Rch p ev below _ T137 (mkF m 113 #[.val (.ref so), .val (.int (Int32.ofNat jj))] [(.int (1 : Int32)), (.ref rs), (.long (own_L ((own_F A.toInt B.toInt e N) - (own_F A.toInt B.toInt e (N - bcl))))), (.int (Int32.ofNat (bcl + 1))), (.ref bs)])
            refine Rch.go (fun _ q => ldI X137 hx hZ e137 Wl.2.2.1 (j := (1 : Int32)) (v := (.int B)) (by decide) (r1 hr) (g := (mkF m 113 #[.val (.ref so), .val (.int (Int32.ofNat jj))] [(.int (1 : Int32)), (.ref rs), (.long (own_L ((own_F A.toInt B.toInt e N) - (own_F A.toInt B.toInt e (N - bcl))))), (.int (Int32.ofNat (bcl + 1))), (.ref bs)])) rfl rfl (hb hby dla_113) _ q) ?_
            show Rch p ev below _ T137 (mkF m 114 #[.val (.ref so), .val (.int (Int32.ofNat jj))] [(.int B), (.long (own_L ((own_F A.toInt B.toInt e N) - (own_F A.toInt B.toInt e (N - bcl))))), (.int (Int32.ofNat (bcl + 1))), (.ref bs)])
            refine Rch.go (fun _ q => XS.i2l X137.here hx rfl (hb hby dla_114) rfl q) ?_
            show Rch p ev below _ T137 (mkF m 115 #[.val (.ref so), .val (.int (Int32.ofNat jj))] [(.long (B.toInt64)), (.long (own_L ((own_F A.toInt B.toInt e N) - (own_F A.toInt B.toInt e (N - bcl))))), (.int (Int32.ofNat (bcl + 1))), (.ref bs)])
            refine Rch.go (fun _ q => XS.ladd X137.here hx rfl (hb hby dla_115) rfl q) ?_
            show Rch p ev below _ T137 (mkF m 116 #[.val (.ref so), .val (.int (Int32.ofNat jj))] [(.long ((own_L ((own_F A.toInt B.toInt e N) - (own_F A.toInt B.toInt e (N - bcl)))) + (B.toInt64))), (.int (Int32.ofNat (bcl + 1))), (.ref bs)])
            have hstep : (own_F A.toInt B.toInt e (N - bcl)) = (own_F A.toInt B.toInt e (N - (bcl + 1))) + B.toInt := by
              have q : N - bcl = (N - (bcl + 1)) + 1 := by omega
              rw [q, own_F, if_neg (by omega)]
            rw [show (own_L ((own_F A.toInt B.toInt e N) - (own_F A.toInt B.toInt e (N - bcl))) + (B.toInt64)) = (own_L ((own_F A.toInt B.toInt e N) - (own_F A.toInt B.toInt e (N - (bcl + 1))))) from (by rw [own_L_i2l, own_L_add]; congr 1; omega)]
            show Rch p ev below _ T137 (mkF m 116 #[.val (.ref so), .val (.int (Int32.ofNat jj))] [(.long (own_L ((own_F A.toInt B.toInt e N) - (own_F A.toInt B.toInt e (N - (bcl + 1)))))), (.int (Int32.ofNat (bcl + 1))), (.ref bs)])
            obtain ⟨T138, h138, X138, e138, W138, V138, st138⟩ := sdJ X137 hx hZ e137 Wl.2.2.2.2.2.1 (j := (Int32.ofNat (bcl + 1))) (own_in_N (by omega) (by omega)) (bcl + 1) (own_nat_N (by omega)) (by rw [hc3]; omega) (g := (mkF m 116 #[.val (.ref so), .val (.int (Int32.ofNat jj))] [(.long (own_L ((own_F A.toInt B.toInt e N) - (own_F A.toInt B.toInt e (N - (bcl + 1)))))), (.int (Int32.ofNat (bcl + 1))), (.ref bs)])) rfl rfl (hb hby dla_116)
            have N138 := Fr.snoc X138 Nl Wl.2.2.2.2.2.2.1.2.2.2.2.1
            have WW138 : own_W Z h138 n0 so rs rt fs bs kr kt kf kb rl tl fl (bll.set (bcl + 1) (.long (own_L ((own_F A.toInt B.toInt e N) - (own_F A.toInt B.toInt e (N - (bcl + 1))))))) zl [(.ref rs), (.ref rt), (.int rc), (.int (Int32.ofNat N)), (.long sm), (.ref fs), (.int (Int32.ofNat fc)), (.int fr), (.ref bs), (.int (Int32.ofNat bcl)), (.int (1 : Int32)), (.int los), (.int lo), (.long gb), (.long ga)] := own_W_bs Wl W138 V138
            refine Rch.go st138 ?_
            show Rch p ev below _ T138 (mkF m 117 #[.val (.ref so), .val (.int (Int32.ofNat jj))] [])
            refine Rch.go (fun _ q => XS.aloadN X138.here hx rfl (hb hby dla_117) rfl rfl q) ?_
            show Rch p ev below _ T138 (mkF m 118 #[.val (.ref so), .val (.int (Int32.ofNat jj))] [(.ref so)])
            refine Rch.go (fun _ q => XS.dup X138.here hx rfl (hb hby dla_118) rfl rfl q) ?_
            show Rch p ev below _ T138 (mkF m 119 #[.val (.ref so), .val (.int (Int32.ofNat jj))] [(.ref so), (.ref so)])
            obtain ⟨T139, X139, e139, st139⟩ := getF X138 hx hZ hown (host := "") (Or.inl (hw _ (List.mem_of_getElem? (i := 37) rfl))) Via.refl e138 (WW138.2.1 9 _ _ _ rfl rfl) (g := (mkF m 119 #[.val (.ref so), .val (.int (Int32.ofNat jj))] [(.ref so), (.ref so)])) rfl rfl (hb hby dla_119)
            refine Rch.go st139 ?_
            show Rch p ev below _ T139 (mkF m 122 #[.val (.ref so), .val (.int (Int32.ofNat jj))] [(.int (Int32.ofNat bcl)), (.ref so)])
            refine Rch.go (fun _ q => XS.iconst X139.here hx rfl (hb hby dla_122) q) ?_
            show Rch p ev below _ T139 (mkF m 123 #[.val (.ref so), .val (.int (Int32.ofNat jj))] [(.int (1 : Int32)), (.int (Int32.ofNat bcl)), (.ref so)])
            refine Rch.go (fun _ q => XS.iadd X139.here hx rfl (hb hby dla_123) rfl q) ?_
            show Rch p ev below _ T139 (mkF m 124 #[.val (.ref so), .val (.int (Int32.ofNat jj))] [(.int ((Int32.ofNat bcl) + (1 : Int32))), (.ref so)])
            rw [show (Int32.ofNat bcl + (1 : Int32)) = (Int32.ofNat (bcl + 1)) from (own_add1_N (by omega))]
            show Rch p ev below _ T139 (mkF m 124 #[.val (.ref so), .val (.int (Int32.ofNat jj))] [(.int (Int32.ofNat (bcl + 1))), (.ref so)])
            obtain ⟨T140, h140, X140, e140, W140, st140⟩ := putF X139 hx hZ hown (host := "") (Or.inl (hw _ (List.mem_of_getElem? (i := 37) rfl))) Via.refl e139 (WW138.2.1 9 _ _ _ rfl rfl) WW138.1 (Or.inl (hw _ (List.mem_of_getElem? (i := 38) rfl))) (hw _ (List.mem_of_getElem? (i := 8) rfl)) (ty := .int) (by decide) rfl rfl (g := (mkF m 124 #[.val (.ref so), .val (.int (Int32.ofNat jj))] [(.int (Int32.ofNat (bcl + 1))), (.ref so)])) rfl rfl (hb hby dla_124)
            have N140 := Fr.snoc X140 N138 WW138.2.2.2.2.2.2.1.1
            have Z140 : n0 ≤ h140.size := by rw [W140.size]; exact WW138.2.2.2.2.2.2.1.2.2.2.2.2
            refine Rch.go st140 ?_
            show Rch p ev below _ T140 (mkF m 127 #[.val (.ref so), .val (.int (Int32.ofNat jj))] [])
            have WW140 : own_W Z h140 n0 so rs rt fs bs kr kt kf kb rl tl fl (bll.set (bcl + 1) (.long (own_L ((own_F A.toInt B.toInt e N) - (own_F A.toInt B.toInt e (N - (bcl + 1))))))) zl [(.ref rs), (.ref rt), (.int rc), (.int (Int32.ofNat N)), (.long sm), (.ref fs), (.int (Int32.ofNat fc)), (.int fr), (.ref bs), (.int (Int32.ofNat (bcl + 1))), (.int (1 : Int32)), (.int los), (.int lo), (.long gb), (.long ga)] := own_W_put hw WW138 9 rfl W140
            refine Rch.go (fun _ q => XS.goto X140.here hx rfl (pc0 := 127) (pc' := 47) rfl (hb hby dla_127) (by decide) (by decide) q) ?_
            show Rch p ev below _ T140 (mkF m 47 #[.val (.ref so), .val (.int (Int32.ofNat jj))] [])
            exact ih _ _ _ (bcl + 1) (1 : Int32) _ X140 e140 N140 WW140 ⟨by omega, Or.inr ⟨hr, Or.inl ⟨rfl, by omega⟩⟩, by rw [List.length_set]; exact hc3, fun i hi => by
              rw [own_getD_set _ _ _ _ _ (by rw [hc3]; omega)]
              by_cases q : i = bcl + 1
              · rw [if_pos q, q]
              · rw [if_neg q]; exact hvals i (by omega)⟩ (by omega)
        · subst hbr
          have hen : e < N := by rcases hrc with ⟨q, q2⟩ | ⟨q, q2⟩; (rw [hr] at q; exact absurd q (by decide)); exact q2
          show Rch p ev below _ T103 (mkF m 55 #[.val (.ref so), .val (.int (Int32.ofNat jj))] [])
          refine Rch.go (fun _ q => XS.aloadN X103.here hx rfl (hb hby dla_55) rfl rfl q) ?_
          show Rch p ev below _ T103 (mkF m 56 #[.val (.ref so), .val (.int (Int32.ofNat jj))] [(.ref so)])
          obtain ⟨T141, X141, e141, st141⟩ := getF X103 hx hZ hown (host := "") (Or.inl (hw _ (List.mem_of_getElem? (i := 33) rfl))) Via.refl e103 (Wl.2.1 3 _ _ _ rfl rfl) (g := (mkF m 56 #[.val (.ref so), .val (.int (Int32.ofNat jj))] [(.ref so)])) rfl rfl (hb hby dla_56)
          refine Rch.go st141 ?_
          show Rch p ev below _ T141 (mkF m 59 #[.val (.ref so), .val (.int (Int32.ofNat jj))] [(.int (Int32.ofNat N))])
          refine Rch.go (fun _ q => XS.aloadN X141.here hx rfl (hb hby dla_59) rfl rfl q) ?_
          show Rch p ev below _ T141 (mkF m 60 #[.val (.ref so), .val (.int (Int32.ofNat jj))] [(.ref so), (.int (Int32.ofNat N))])
          obtain ⟨T142, X142, e142, st142⟩ := getF X141 hx hZ hown (host := "") (Or.inl (hw _ (List.mem_of_getElem? (i := 37) rfl))) Via.refl e141 (Wl.2.1 9 _ _ _ rfl rfl) (g := (mkF m 60 #[.val (.ref so), .val (.int (Int32.ofNat jj))] [(.ref so), (.int (Int32.ofNat N))])) rfl rfl (hb hby dla_60)
          refine Rch.go st142 ?_
          show Rch p ev below _ T142 (mkF m 63 #[.val (.ref so), .val (.int (Int32.ofNat jj))] [(.int (Int32.ofNat bcl)), (.int (Int32.ofNat N))])
          refine Rch.go (fun _ q => XS.isub X142.here hx rfl (hb hby dla_63) rfl q) ?_
          show Rch p ev below _ T142 (mkF m 64 #[.val (.ref so), .val (.int (Int32.ofNat jj))] [(.int ((Int32.ofNat N) - (Int32.ofNat bcl)))])
          rw [show (Int32.ofNat N - Int32.ofNat bcl) = (Int32.ofNat (N - bcl)) from (own_sub_N (by omega) (by omega))]
          show Rch p ev below _ T142 (mkF m 64 #[.val (.ref so), .val (.int (Int32.ofNat jj))] [(.int (Int32.ofNat (N - bcl)))])
          refine Rch.go (fun _ q => XS.aloadN X142.here hx rfl (hb hby dla_64) rfl rfl q) ?_
          show Rch p ev below _ T142 (mkF m 65 #[.val (.ref so), .val (.int (Int32.ofNat jj))] [(.ref so), (.int (Int32.ofNat (N - bcl)))])
          obtain ⟨T143, X143, e143, st143⟩ := getF X142 hx hZ hown (host := "") (Or.inl (hw _ (List.mem_of_getElem? (i := 24) rfl))) Via.refl e142 (Wl.2.1 1 _ _ _ rfl rfl) (g := (mkF m 65 #[.val (.ref so), .val (.int (Int32.ofNat jj))] [(.ref so), (.int (Int32.ofNat (N - bcl)))])) rfl rfl (hb hby dla_65)
          refine Rch.go st143 ?_
          show Rch p ev below _ T143 (mkF m 68 #[.val (.ref so), .val (.int (Int32.ofNat jj))] [(.ref rt), (.int (Int32.ofNat (N - bcl)))])
          refine Rch.go (fun _ q => XS.aloadN X143.here hx rfl (hb hby dla_68) rfl rfl q) ?_
          show Rch p ev below _ T143 (mkF m 69 #[.val (.ref so), .val (.int (Int32.ofNat jj))] [(.ref so), (.ref rt), (.int (Int32.ofNat (N - bcl)))])
          obtain ⟨T144, X144, e144, st144⟩ := getF X143 hx hZ hown (host := "") (Or.inl (hw _ (List.mem_of_getElem? (i := 39) rfl))) Via.refl e143 (Wl.2.1 10 _ _ _ rfl rfl) (g := (mkF m 69 #[.val (.ref so), .val (.int (Int32.ofNat jj))] [(.ref so), (.ref rt), (.int (Int32.ofNat (N - bcl)))])) rfl rfl (hb hby dla_69)
          refine Rch.go st144 ?_
          show Rch p ev below _ T144 (mkF m 72 #[.val (.ref so), .val (.int (Int32.ofNat jj))] [(.int (0 : Int32)), (.ref rt), (.int (Int32.ofNat (N - bcl)))])
          refine Rch.go (fun _ q => ldI X144 hx hZ e144 Wl.2.2.2.1 (j := (0 : Int32)) (v := (.int (0 : Int32))) (by decide) t0 (g := (mkF m 72 #[.val (.ref so), .val (.int (Int32.ofNat jj))] [(.int (0 : Int32)), (.ref rt), (.int (Int32.ofNat (N - bcl)))])) rfl rfl (hb hby dla_72) _ q) ?_
          show Rch p ev below _ T144 (mkF m 73 #[.val (.ref so), .val (.int (Int32.ofNat jj))] [(.int (0 : Int32)), (.int (Int32.ofNat (N - bcl)))])
          refine Rch.go (fun _ q => XS.icmpYes X144.here hx rfl (pc0 := 73) (pc' := 86) rfl (hb hby dla_73) rfl (feq (mt (own_eq_N (a := N - bcl) (b := 0) (by omega) (by omega)).mp (by omega))).2 (by decide) (by decide) q) ?_
          show Rch p ev below _ T144 (mkF m 86 #[.val (.ref so), .val (.int (Int32.ofNat jj))] [])
          refine Rch.go (fun _ q => XS.aloadN X144.here hx rfl (hb hby dla_86) rfl rfl q) ?_
          show Rch p ev below _ T144 (mkF m 87 #[.val (.ref so), .val (.int (Int32.ofNat jj))] [(.ref so)])
          obtain ⟨T145, X145, e145, st145⟩ := getF X144 hx hZ hown (host := "") (Or.inl (hw _ (List.mem_of_getElem? (i := 19) rfl))) Via.refl e144 (Wl.2.1 8 _ _ _ rfl rfl) (g := (mkF m 87 #[.val (.ref so), .val (.int (Int32.ofNat jj))] [(.ref so)])) rfl rfl (hb hby dla_87)
          refine Rch.go st145 ?_
          show Rch p ev below _ T145 (mkF m 90 #[.val (.ref so), .val (.int (Int32.ofNat jj))] [(.ref bs)])
          refine Rch.go (fun _ q => XS.aloadN X145.here hx rfl (hb hby dla_90) rfl rfl q) ?_
          show Rch p ev below _ T145 (mkF m 91 #[.val (.ref so), .val (.int (Int32.ofNat jj))] [(.ref so), (.ref bs)])
          obtain ⟨T146, X146, e146, st146⟩ := getF X145 hx hZ hown (host := "") (Or.inl (hw _ (List.mem_of_getElem? (i := 37) rfl))) Via.refl e145 (Wl.2.1 9 _ _ _ rfl rfl) (g := (mkF m 91 #[.val (.ref so), .val (.int (Int32.ofNat jj))] [(.ref so), (.ref bs)])) rfl rfl (hb hby dla_91)
          refine Rch.go st146 ?_
          show Rch p ev below _ T146 (mkF m 94 #[.val (.ref so), .val (.int (Int32.ofNat jj))] [(.int (Int32.ofNat bcl)), (.ref bs)])
          refine Rch.go (fun _ q => XS.iconst X146.here hx rfl (hb hby dla_94) q) ?_
          show Rch p ev below _ T146 (mkF m 95 #[.val (.ref so), .val (.int (Int32.ofNat jj))] [(.int (1 : Int32)), (.int (Int32.ofNat bcl)), (.ref bs)])
          refine Rch.go (fun _ q => XS.iadd X146.here hx rfl (hb hby dla_95) rfl q) ?_
          show Rch p ev below _ T146 (mkF m 96 #[.val (.ref so), .val (.int (Int32.ofNat jj))] [(.int ((Int32.ofNat bcl) + (1 : Int32))), (.ref bs)])
          rw [show (Int32.ofNat bcl + (1 : Int32)) = (Int32.ofNat (bcl + 1)) from (own_add1_N (by omega))]
          show Rch p ev below _ T146 (mkF m 96 #[.val (.ref so), .val (.int (Int32.ofNat jj))] [(.int (Int32.ofNat (bcl + 1))), (.ref bs)])
          refine Rch.go (fun _ q => XS.aloadN X146.here hx rfl (hb hby dla_96) rfl rfl q) ?_
          show Rch p ev below _ T146 (mkF m 97 #[.val (.ref so), .val (.int (Int32.ofNat jj))] [(.ref so), (.int (Int32.ofNat (bcl + 1))), (.ref bs)])
          obtain ⟨T147, X147, e147, st147⟩ := getF X146 hx hZ hown (host := "") (Or.inl (hw _ (List.mem_of_getElem? (i := 19) rfl))) Via.refl e146 (Wl.2.1 8 _ _ _ rfl rfl) (g := (mkF m 97 #[.val (.ref so), .val (.int (Int32.ofNat jj))] [(.ref so), (.int (Int32.ofNat (bcl + 1))), (.ref bs)])) rfl rfl (hb hby dla_97)
          refine Rch.go st147 ?_
          show Rch p ev below _ T147 (mkF m 100 #[.val (.ref so), .val (.int (Int32.ofNat jj))] [(.ref bs), (.int (Int32.ofNat (bcl + 1))), (.ref bs)])
          refine Rch.go (fun _ q => XS.aloadN X147.here hx rfl (hb hby dla_100) rfl rfl q) ?_
          show Rch p ev below _ T147 (mkF m 101 #[.val (.ref so), .val (.int (Int32.ofNat jj))] [(.ref so), (.ref bs), (.int (Int32.ofNat (bcl + 1))), (.ref bs)])
          obtain ⟨T148, X148, e148, st148⟩ := getF X147 hx hZ hown (host := "") (Or.inl (hw _ (List.mem_of_getElem? (i := 37) rfl))) Via.refl e147 (Wl.2.1 9 _ _ _ rfl rfl) (g := (mkF m 101 #[.val (.ref so), .val (.int (Int32.ofNat jj))] [(.ref so), (.ref bs), (.int (Int32.ofNat (bcl + 1))), (.ref bs)])) rfl rfl (hb hby dla_101)
          refine Rch.go st148 ?_
          show Rch p ev below _ T148 (mkF m 104 #[.val (.ref so), .val (.int (Int32.ofNat jj))] [(.int (Int32.ofNat bcl)), (.ref bs), (.int (Int32.ofNat (bcl + 1))), (.ref bs)])
          refine Rch.go (fun _ q => ldJ X148 hx hZ e148 Wl.2.2.2.2.2.1 (j := (Int32.ofNat bcl)) (v := (.long (own_L ((own_F A.toInt B.toInt e N) - (own_F A.toInt B.toInt e (N - bcl)))))) (own_in_N (by omega) (by omega)) (by rw [own_nat_N (by omega)]; exact hvals bcl (Nat.le_refl _)) (g := (mkF m 104 #[.val (.ref so), .val (.int (Int32.ofNat jj))] [(.int (Int32.ofNat bcl)), (.ref bs), (.int (Int32.ofNat (bcl + 1))), (.ref bs)])) rfl rfl (hb hby dla_104) _ q) ?_
          show Rch p ev below _ T148 (mkF m 105 #[.val (.ref so), .val (.int (Int32.ofNat jj))] [(.long (own_L ((own_F A.toInt B.toInt e N) - (own_F A.toInt B.toInt e (N - bcl))))), (.int (Int32.ofNat (bcl + 1))), (.ref bs)])
          refine Rch.go (fun _ q => XS.aloadN X148.here hx rfl (hb hby dla_105) rfl rfl q) ?_
          show Rch p ev below _ T148 (mkF m 106 #[.val (.ref so), .val (.int (Int32.ofNat jj))] [(.ref so), (.long (own_L ((own_F A.toInt B.toInt e N) - (own_F A.toInt B.toInt e (N - bcl))))), (.int (Int32.ofNat (bcl + 1))), (.ref bs)])
          obtain ⟨T149, X149, e149, st149⟩ := getF X148 hx hZ hown (host := "") (Or.inl (hw _ (List.mem_of_getElem? (i := 22) rfl))) Via.refl e148 (Wl.2.1 0 _ _ _ rfl rfl) (g := (mkF m 106 #[.val (.ref so), .val (.int (Int32.ofNat jj))] [(.ref so), (.long (own_L ((own_F A.toInt B.toInt e N) - (own_F A.toInt B.toInt e (N - bcl))))), (.int (Int32.ofNat (bcl + 1))), (.ref bs)])) rfl rfl (hb hby dla_106)
          refine Rch.go st149 ?_
          show Rch p ev below _ T149 (mkF m 109 #[.val (.ref so), .val (.int (Int32.ofNat jj))] [(.ref rs), (.long (own_L ((own_F A.toInt B.toInt e N) - (own_F A.toInt B.toInt e (N - bcl))))), (.int (Int32.ofNat (bcl + 1))), (.ref bs)])
          refine Rch.go (fun _ q => XS.aloadN X149.here hx rfl (hb hby dla_109) rfl rfl q) ?_
          show Rch p ev below _ T149 (mkF m 110 #[.val (.ref so), .val (.int (Int32.ofNat jj))] [(.ref so), (.ref rs), (.long (own_L ((own_F A.toInt B.toInt e N) - (own_F A.toInt B.toInt e (N - bcl))))), (.int (Int32.ofNat (bcl + 1))), (.ref bs)])
          obtain ⟨T150, X150, e150, st150⟩ := getF X149 hx hZ hown (host := "") (Or.inl (hw _ (List.mem_of_getElem? (i := 39) rfl))) Via.refl e149 (Wl.2.1 10 _ _ _ rfl rfl) (g := (mkF m 110 #[.val (.ref so), .val (.int (Int32.ofNat jj))] [(.ref so), (.ref rs), (.long (own_L ((own_F A.toInt B.toInt e N) - (own_F A.toInt B.toInt e (N - bcl))))), (.int (Int32.ofNat (bcl + 1))), (.ref bs)])) rfl rfl (hb hby dla_110)
          refine Rch.go st150 ?_
          show Rch p ev below _ T150 (mkF m 113 #[.val (.ref so), .val (.int (Int32.ofNat jj))] [(.int (0 : Int32)), (.ref rs), (.long (own_L ((own_F A.toInt B.toInt e N) - (own_F A.toInt B.toInt e (N - bcl))))), (.int (Int32.ofNat (bcl + 1))), (.ref bs)])
          refine Rch.go (fun _ q => ldI X150 hx hZ e150 Wl.2.2.1 (j := (0 : Int32)) (v := (.int A)) (by decide) r0 (g := (mkF m 113 #[.val (.ref so), .val (.int (Int32.ofNat jj))] [(.int (0 : Int32)), (.ref rs), (.long (own_L ((own_F A.toInt B.toInt e N) - (own_F A.toInt B.toInt e (N - bcl))))), (.int (Int32.ofNat (bcl + 1))), (.ref bs)])) rfl rfl (hb hby dla_113) _ q) ?_
          show Rch p ev below _ T150 (mkF m 114 #[.val (.ref so), .val (.int (Int32.ofNat jj))] [(.int A), (.long (own_L ((own_F A.toInt B.toInt e N) - (own_F A.toInt B.toInt e (N - bcl))))), (.int (Int32.ofNat (bcl + 1))), (.ref bs)])
          refine Rch.go (fun _ q => XS.i2l X150.here hx rfl (hb hby dla_114) rfl q) ?_
          show Rch p ev below _ T150 (mkF m 115 #[.val (.ref so), .val (.int (Int32.ofNat jj))] [(.long (A.toInt64)), (.long (own_L ((own_F A.toInt B.toInt e N) - (own_F A.toInt B.toInt e (N - bcl))))), (.int (Int32.ofNat (bcl + 1))), (.ref bs)])
          refine Rch.go (fun _ q => XS.ladd X150.here hx rfl (hb hby dla_115) rfl q) ?_
          show Rch p ev below _ T150 (mkF m 116 #[.val (.ref so), .val (.int (Int32.ofNat jj))] [(.long ((own_L ((own_F A.toInt B.toInt e N) - (own_F A.toInt B.toInt e (N - bcl)))) + (A.toInt64))), (.int (Int32.ofNat (bcl + 1))), (.ref bs)])
          have hstep : (own_F A.toInt B.toInt e (N - bcl)) = (own_F A.toInt B.toInt e (N - (bcl + 1))) + A.toInt := by
            have q : N - bcl = (N - (bcl + 1)) + 1 := by omega
            rw [q, own_F, if_pos (by omega)]
          rw [show (own_L ((own_F A.toInt B.toInt e N) - (own_F A.toInt B.toInt e (N - bcl))) + (A.toInt64)) = (own_L ((own_F A.toInt B.toInt e N) - (own_F A.toInt B.toInt e (N - (bcl + 1))))) from (by rw [own_L_i2l, own_L_add]; congr 1; omega)]
          show Rch p ev below _ T150 (mkF m 116 #[.val (.ref so), .val (.int (Int32.ofNat jj))] [(.long (own_L ((own_F A.toInt B.toInt e N) - (own_F A.toInt B.toInt e (N - (bcl + 1)))))), (.int (Int32.ofNat (bcl + 1))), (.ref bs)])
          obtain ⟨T151, h151, X151, e151, W151, V151, st151⟩ := sdJ X150 hx hZ e150 Wl.2.2.2.2.2.1 (j := (Int32.ofNat (bcl + 1))) (own_in_N (by omega) (by omega)) (bcl + 1) (own_nat_N (by omega)) (by rw [hc3]; omega) (g := (mkF m 116 #[.val (.ref so), .val (.int (Int32.ofNat jj))] [(.long (own_L ((own_F A.toInt B.toInt e N) - (own_F A.toInt B.toInt e (N - (bcl + 1)))))), (.int (Int32.ofNat (bcl + 1))), (.ref bs)])) rfl rfl (hb hby dla_116)
          have N151 := Fr.snoc X151 Nl Wl.2.2.2.2.2.2.1.2.2.2.2.1
          have WW151 : own_W Z h151 n0 so rs rt fs bs kr kt kf kb rl tl fl (bll.set (bcl + 1) (.long (own_L ((own_F A.toInt B.toInt e N) - (own_F A.toInt B.toInt e (N - (bcl + 1))))))) zl [(.ref rs), (.ref rt), (.int rc), (.int (Int32.ofNat N)), (.long sm), (.ref fs), (.int (Int32.ofNat fc)), (.int fr), (.ref bs), (.int (Int32.ofNat bcl)), (.int (0 : Int32)), (.int los), (.int lo), (.long gb), (.long ga)] := own_W_bs Wl W151 V151
          refine Rch.go st151 ?_
          show Rch p ev below _ T151 (mkF m 117 #[.val (.ref so), .val (.int (Int32.ofNat jj))] [])
          refine Rch.go (fun _ q => XS.aloadN X151.here hx rfl (hb hby dla_117) rfl rfl q) ?_
          show Rch p ev below _ T151 (mkF m 118 #[.val (.ref so), .val (.int (Int32.ofNat jj))] [(.ref so)])
          refine Rch.go (fun _ q => XS.dup X151.here hx rfl (hb hby dla_118) rfl rfl q) ?_
          show Rch p ev below _ T151 (mkF m 119 #[.val (.ref so), .val (.int (Int32.ofNat jj))] [(.ref so), (.ref so)])
          obtain ⟨T152, X152, e152, st152⟩ := getF X151 hx hZ hown (host := "") (Or.inl (hw _ (List.mem_of_getElem? (i := 37) rfl))) Via.refl e151 (WW151.2.1 9 _ _ _ rfl rfl) (g := (mkF m 119 #[.val (.ref so), .val (.int (Int32.ofNat jj))] [(.ref so), (.ref so)])) rfl rfl (hb hby dla_119)
          refine Rch.go st152 ?_
          show Rch p ev below _ T152 (mkF m 122 #[.val (.ref so), .val (.int (Int32.ofNat jj))] [(.int (Int32.ofNat bcl)), (.ref so)])
          refine Rch.go (fun _ q => XS.iconst X152.here hx rfl (hb hby dla_122) q) ?_
          show Rch p ev below _ T152 (mkF m 123 #[.val (.ref so), .val (.int (Int32.ofNat jj))] [(.int (1 : Int32)), (.int (Int32.ofNat bcl)), (.ref so)])
          refine Rch.go (fun _ q => XS.iadd X152.here hx rfl (hb hby dla_123) rfl q) ?_
          show Rch p ev below _ T152 (mkF m 124 #[.val (.ref so), .val (.int (Int32.ofNat jj))] [(.int ((Int32.ofNat bcl) + (1 : Int32))), (.ref so)])
          rw [show (Int32.ofNat bcl + (1 : Int32)) = (Int32.ofNat (bcl + 1)) from (own_add1_N (by omega))]
          show Rch p ev below _ T152 (mkF m 124 #[.val (.ref so), .val (.int (Int32.ofNat jj))] [(.int (Int32.ofNat (bcl + 1))), (.ref so)])
          obtain ⟨T153, h153, X153, e153, W153, st153⟩ := putF X152 hx hZ hown (host := "") (Or.inl (hw _ (List.mem_of_getElem? (i := 37) rfl))) Via.refl e152 (WW151.2.1 9 _ _ _ rfl rfl) WW151.1 (Or.inl (hw _ (List.mem_of_getElem? (i := 38) rfl))) (hw _ (List.mem_of_getElem? (i := 8) rfl)) (ty := .int) (by decide) rfl rfl (g := (mkF m 124 #[.val (.ref so), .val (.int (Int32.ofNat jj))] [(.int (Int32.ofNat (bcl + 1))), (.ref so)])) rfl rfl (hb hby dla_124)
          have N153 := Fr.snoc X153 N151 WW151.2.2.2.2.2.2.1.1
          have Z153 : n0 ≤ h153.size := by rw [W153.size]; exact WW151.2.2.2.2.2.2.1.2.2.2.2.2
          refine Rch.go st153 ?_
          show Rch p ev below _ T153 (mkF m 127 #[.val (.ref so), .val (.int (Int32.ofNat jj))] [])
          have WW153 : own_W Z h153 n0 so rs rt fs bs kr kt kf kb rl tl fl (bll.set (bcl + 1) (.long (own_L ((own_F A.toInt B.toInt e N) - (own_F A.toInt B.toInt e (N - (bcl + 1))))))) zl [(.ref rs), (.ref rt), (.int rc), (.int (Int32.ofNat N)), (.long sm), (.ref fs), (.int (Int32.ofNat fc)), (.int fr), (.ref bs), (.int (Int32.ofNat (bcl + 1))), (.int (0 : Int32)), (.int los), (.int lo), (.long gb), (.long ga)] := own_W_put hw WW151 9 rfl W153
          refine Rch.go (fun _ q => XS.goto X153.here hx rfl (pc0 := 127) (pc' := 47) rfl (hb hby dla_127) (by decide) (by decide) q) ?_
          show Rch p ev below _ T153 (mkF m 47 #[.val (.ref so), .val (.int (Int32.ofNat jj))] [])
          exact ih _ _ _ (bcl + 1) (0 : Int32) _ X153 e153 N153 WW153 ⟨by omega, Or.inr ⟨hr, Or.inr ⟨rfl, by omega⟩⟩, by rw [List.length_set]; exact hc3, fun i hi => by
            rw [own_getD_set _ _ _ _ _ (by rw [hc3]; omega)]
            by_cases q : i = bcl + 1
            · rw [if_pos q, q]
            · rw [if_neg q]; exact hvals i (by omega)⟩ (by omega)
      · skip
        refine Rch.go (fun _ q => XS.icmpYes X103.here hx rfl (pc0 := 52) (pc' := 130) rfl (hb hby dla_52) rfl (flt ((mt (own_lt_N (a := bcl) (b := jj) (by omega) (by omega)).mp hc52))).2.1 (by decide) (by decide) q) ?_
        show Rch p ev below _ T103 (mkF m 130 #[.val (.ref so), .val (.int (Int32.ofNat jj))] [])
        refine Rch.go (fun _ q => XS.aloadN X103.here hx rfl (hb hby dla_130) rfl rfl q) ?_
        show Rch p ev below _ T103 (mkF m 131 #[.val (.ref so), .val (.int (Int32.ofNat jj))] [(.ref so)])
        obtain ⟨T154, X154, e154, st154⟩ := getF X103 hx hZ hown (host := "") (Or.inl (hw _ (List.mem_of_getElem? (i := 19) rfl))) Via.refl e103 (Wl.2.1 8 _ _ _ rfl rfl) (g := (mkF m 131 #[.val (.ref so), .val (.int (Int32.ofNat jj))] [(.ref so)])) rfl rfl (hb hby dla_131)
        refine Rch.go st154 ?_
        show Rch p ev below _ T154 (mkF m 134 #[.val (.ref so), .val (.int (Int32.ofNat jj))] [(.ref bs)])
        refine Rch.go (fun _ q => XS.iloadN X154.here hx rfl (hb hby dla_134) rfl  q) ?_
        show Rch p ev below _ T154 (mkF m 135 #[.val (.ref so), .val (.int (Int32.ofNat jj))] [(.int (Int32.ofNat jj)), (.ref bs)])
        refine Rch.go (fun _ q => ldJ X154 hx hZ e154 Wl.2.2.2.2.2.1 (j := (Int32.ofNat jj)) (v := (.long (own_L ((own_F A.toInt B.toInt e N) - (own_F A.toInt B.toInt e (N - jj)))))) (own_in_N (by omega) (by omega)) (by rw [own_nat_N (by omega)]; exact hvals jj (by omega)) (g := (mkF m 135 #[.val (.ref so), .val (.int (Int32.ofNat jj))] [(.int (Int32.ofNat jj)), (.ref bs)])) rfl rfl (hb hby dla_135) _ q) ?_
        show Rch p ev below _ T154 (mkF m 136 #[.val (.ref so), .val (.int (Int32.ofNat jj))] [(.long (own_L ((own_F A.toInt B.toInt e N) - (own_F A.toInt B.toInt e (N - jj)))))])
        refine Rch.retJ X154 hx hlk Bd.returns (hb hby dla_136) (by decide) (by decide) ?_
        unfold Qrmla0
        rw [e154]
        exact ⟨rfl, Nl, fc, bcl, rs, rt, fs, bs, kr, kt, kf, kb, rl, tl, fl, bll, zl, fr, brl, los, sm, gb, Wl, Is, If, hinv⟩
  refine Rch.go (fun _ q => XS.iloadN X0.here hx rfl (hb hby dla_0) rfl  q) ?_
  show Rch p ev below _ s₁ (mkF m 1 #[.val (.ref so), .val (.int (Int32.ofNat jj))] [(.int (Int32.ofNat jj))])
  refine Rch.go (fun _ q => XS.aloadN X0.here hx rfl (hb hby dla_1) rfl rfl q) ?_
  show Rch p ev below _ s₁ (mkF m 2 #[.val (.ref so), .val (.int (Int32.ofNat jj))] [(.ref so), (.int (Int32.ofNat jj))])
  obtain ⟨T155, X155, e155, st155⟩ := getF X0 hx hZ hown (host := "") (Or.inl (hw _ (List.mem_of_getElem? (i := 37) rfl))) Via.refl e0 (WW.2.1 9 _ _ _ rfl rfl) (g := (mkF m 2 #[.val (.ref so), .val (.int (Int32.ofNat jj))] [(.ref so), (.int (Int32.ofNat jj))])) rfl rfl (hb hby dla_2)
  refine Rch.go st155 ?_
  show Rch p ev below _ T155 (mkF m 5 #[.val (.ref so), .val (.int (Int32.ofNat jj))] [(.int (Int32.ofNat bc)), (.int (Int32.ofNat jj))])
  by_cases hc5 : bc < jj
  · skip
    refine Rch.go (fun _ q => XS.icmpNo X155.here hx rfl (hb hby dla_5) rfl (tlt ((own_lt_N (a := bc) (b := jj) (by omega) (by omega)).mpr hc5)).2.2.2 q) ?_
    show Rch p ev below _ T155 (mkF m 8 #[.val (.ref so), .val (.int (Int32.ofNat jj))] [])
    refine Rch.go (fun _ q => XS.aloadN X155.here hx rfl (hb hby dla_8) rfl rfl q) ?_
    show Rch p ev below _ T155 (mkF m 9 #[.val (.ref so), .val (.int (Int32.ofNat jj))] [(.ref so)])
    obtain ⟨T156, X156, e156, st156⟩ := getF X155 hx hZ hown (host := "") (Or.inl (hw _ (List.mem_of_getElem? (i := 33) rfl))) Via.refl e155 (WW.2.1 3 _ _ _ rfl rfl) (g := (mkF m 9 #[.val (.ref so), .val (.int (Int32.ofNat jj))] [(.ref so)])) rfl rfl (hb hby dla_9)
    refine Rch.go st156 ?_
    show Rch p ev below _ T156 (mkF m 12 #[.val (.ref so), .val (.int (Int32.ofNat jj))] [(.int (Int32.ofNat N))])
    refine Rch.go (fun _ q => XS.iloadN X156.here hx rfl (hb hby dla_12) rfl  q) ?_
    show Rch p ev below _ T156 (mkF m 13 #[.val (.ref so), .val (.int (Int32.ofNat jj))] [(.int (Int32.ofNat jj)), (.int (Int32.ofNat N))])
    refine Rch.go (fun _ q => XS.isub X156.here hx rfl (hb hby dla_13) rfl q) ?_
    show Rch p ev below _ T156 (mkF m 14 #[.val (.ref so), .val (.int (Int32.ofNat jj))] [(.int ((Int32.ofNat N) - (Int32.ofNat jj)))])
    rw [show (Int32.ofNat N - Int32.ofNat jj) = (Int32.ofNat (N - jj)) from (own_sub_N (by omega) (by omega))]
    show Rch p ev below _ T156 (mkF m 14 #[.val (.ref so), .val (.int (Int32.ofNat jj))] [(.int (Int32.ofNat (N - jj)))])
    refine Rch.go (fun _ q => XS.aloadN X156.here hx rfl (hb hby dla_14) rfl rfl q) ?_
    show Rch p ev below _ T156 (mkF m 15 #[.val (.ref so), .val (.int (Int32.ofNat jj))] [(.ref so), (.int (Int32.ofNat (N - jj)))])
    obtain ⟨T157, X157, e157, st157⟩ := getF X156 hx hZ hown (host := "") (Or.inl (hw _ (List.mem_of_getElem? (i := 74) rfl))) Via.refl e156 (WW.2.1 6 _ _ _ rfl rfl) (g := (mkF m 15 #[.val (.ref so), .val (.int (Int32.ofNat jj))] [(.ref so), (.int (Int32.ofNat (N - jj)))])) rfl rfl (hb hby dla_15)
    refine Rch.go st157 ?_
    show Rch p ev below _ T157 (mkF m 18 #[.val (.ref so), .val (.int (Int32.ofNat jj))] [(.int (Int32.ofNat fc)), (.int (Int32.ofNat (N - jj)))])
    refine Rch.go (fun _ q => XS.icmpNo X157.here hx rfl (hb hby dla_18) rfl (tlt ((own_lt_N (a := fc) (b := N - jj) (by omega) (by omega)).mpr (by omega))).2.2.2 q) ?_
    show Rch p ev below _ T157 (mkF m 21 #[.val (.ref so), .val (.int (Int32.ofNat jj))] [])
    refine Rch.go (fun _ q => XS.aloadN X157.here hx rfl (hb hby dla_21) rfl rfl q) ?_
    show Rch p ev below _ T157 (mkF m 22 #[.val (.ref so), .val (.int (Int32.ofNat jj))] [(.ref so)])
    obtain ⟨T158, X158, e158, st158⟩ := getF X157 hx hZ hown (host := "") (Or.inl (hw _ (List.mem_of_getElem? (i := 33) rfl))) Via.refl e157 (WW.2.1 3 _ _ _ rfl rfl) (g := (mkF m 22 #[.val (.ref so), .val (.int (Int32.ofNat jj))] [(.ref so)])) rfl rfl (hb hby dla_22)
    refine Rch.go st158 ?_
    show Rch p ev below _ T158 (mkF m 25 #[.val (.ref so), .val (.int (Int32.ofNat jj))] [(.int (Int32.ofNat N))])
    refine Rch.go (fun _ q => XS.iloadN X158.here hx rfl (hb hby dla_25) rfl  q) ?_
    show Rch p ev below _ T158 (mkF m 26 #[.val (.ref so), .val (.int (Int32.ofNat jj))] [(.int (Int32.ofNat jj)), (.int (Int32.ofNat N))])
    refine Rch.go (fun _ q => XS.isub X158.here hx rfl (hb hby dla_26) rfl q) ?_
    show Rch p ev below _ T158 (mkF m 27 #[.val (.ref so), .val (.int (Int32.ofNat jj))] [(.int ((Int32.ofNat N) - (Int32.ofNat jj)))])
    rw [show (Int32.ofNat N - Int32.ofNat jj) = (Int32.ofNat (N - jj)) from (own_sub_N (by omega) (by omega))]
    show Rch p ev below _ T158 (mkF m 27 #[.val (.ref so), .val (.int (Int32.ofNat jj))] [(.int (Int32.ofNat (N - jj)))])
    refine Rch.go (fun _ q => XS.iloadN X158.here hx rfl (hb hby dla_27) rfl  q) ?_
    show Rch p ev below _ T158 (mkF m 28 #[.val (.ref so), .val (.int (Int32.ofNat jj))] [(.int (Int32.ofNat jj)), (.int (Int32.ofNat (N - jj)))])
    refine Rch.go (fun _ q => XS.icmpYes X158.here hx rfl (pc0 := 28) (pc' := 47) rfl (hb hby dla_28) rfl (flt (mt (own_lt_N (a := N - jj) (b := jj) (by omega) (by omega)).mp (by omega))).2.1 (by decide) (by decide) q) ?_
    show Rch p ev below _ T158 (mkF m 47 #[.val (.ref so), .val (.int (Int32.ofNat jj))] [])
    exact loop jj _ _ _ bc _ _ X158 e158 N0 WW Ib (by omega)
  · skip
    refine Rch.go (fun _ q => XS.icmpYes X155.here hx rfl (pc0 := 5) (pc' := 47) rfl (hb hby dla_5) rfl (flt ((mt (own_lt_N (a := bc) (b := jj) (by omega) (by omega)).mp hc5))).2.2.2 (by decide) (by decide) q) ?_
    show Rch p ev below _ T155 (mkF m 47 #[.val (.ref so), .val (.int (Int32.ofNat jj))] [])
    exact loop jj _ _ _ bc _ _ X155 e155 N0 WW Ib (by omega)
theorem own_ef7 (m : MethodId) (x0 : Addr) (x1 : Int32) : entryFrame m #[(.ref x0), (.int x1)] 2 = mkF m 0 #[.val (.ref x0), .val (.int x1)] [] := by first | (simp [entryFrame, mkF, argsToLocals, Value.category, maxLocals]; done) | rfl
def Qrmla0b (Z : State) (so : Addr) (A B : Int32) (e N : Nat) (rc lo : Int32) (ga : Int64) (fc bc jj : Nat) (h0 : Heap) (n0 : Nat) : Option Value → Heap → List Loc → Prop := fun v h L => v = some (.long (own_L ((own_F A.toInt B.toInt e N) - (own_F A.toInt B.toInt e (N - jj))))) ∧ Fr n0 L ∧ own_Sg Z h n0 so A B e N rc lo ga
set_option maxRecDepth 65536 in
set_option maxHeartbeats 40000000 in
theorem rmla0b (l : Launch) (Z : State) (a0 : Array Value) (hw : ∀ d ∈ tables_1, d.before a0 Z = true) (ws : List Jvm.Cond) (so : Addr) (A B : Int32) (e N : Nat) (rc lo : Int32) (ga : Int64) (fc bc jj : Nat) (h0 : Heap) (n0 : Nat) (Z0 : n0 ≤ h0.size) (S : own_Sx Z h0 n0 so A B e N rc lo ga fc bc) (hj : jj ≤ N) (hb0 : ¬ (bc < jj ∧ (N - jj ≤ fc ∨ N - jj < jj))) :
    MetFree l (⟨"com/example/binflow/binflow/solve/SubsetSums", "last", "(I)J"⟩ : MethodName) (head1 (Jvm.Cond.code (⟨"com/example/binflow/binflow/solve/SubsetSums", "last", "(I)J"⟩ : MethodName) prog_23_method_15_code 2 (some .long) :: ws) ({ frames := 2, cells := 0, slots := 0, locals := 30 } : Room)) (fun a U => a = #[(.ref so), (.int (Int32.ofNat jj))] ∧ Z.Warmed39 U.vm ∧ U.heap = h0) (fun _ _ _ _ _ => True) (fun _ U o U' => ∃ v L, o = .returned v ∧ (Qrmla0b Z so A B e N rc lo ga fc bc jj h0 n0) v U'.heap L ∧ FrameEnd U o U' L ({ frames := 2, cells := 0, slots := 0, locals := 30 } : Room).cells ({ frames := 2, cells := 0, slots := 0, locals := 30 } : Room).slots) := by
  refine MetFree.of_bodySF own_pn4 hisR ?_
  intro p ev s m args below meth c s₁ Bd hml0 hP hK
  obtain ⟨rfl, hZ, hh⟩ := hP
  have hx := Bd.exec
  have hby := Bd.bytes
  have hlk := Bd.notSynchronized
  have hml : c.maxLocals = 2 := hml0
  have hown : s.vm.findClass "com/example/binflow/binflow/solve/SubsetSums" = some m.cls := findClass_of_methodNamed Bd.named
  have hnm := (name_of_methodNamed Bd.named Bd.method).1
  have X0 : Stand p l ev ({ frames := 2, cells := 0, slots := 0, locals := 30 } : Room) s m #[(.ref so), (.int (Int32.ofNat jj))] below meth c s₁ [] 0 0 := Stand.of_body Bd
  have e0 : s₁.heap = h0 := by rw [← hh, Bd.state]; rfl
  have N0 := Fr.nil n0
  refine Rch.entry (G := (EndQ (Qrmla0b Z so A B e N rc lo ga fc bc jj h0 n0) s ({ frames := 2, cells := 0, slots := 0, locals := 30 } : Room).cells ({ frames := 2, cells := 0, slots := 0, locals := 30 } : Room).slots)) (own_ef7 m so (Int32.ofNat jj)) ?_
  show Rch p ev below _ s₁ (mkF m 0 #[.val (.ref so), .val (.int (Int32.ofNat jj))] [])
  obtain ⟨rs, rt, fs, bs, kr, kt, kf, kb, rl, tl, fl, bl, zl, fr, br, los, sm, gb, WW, Is, If, Ib⟩ := id S
  obtain ⟨hA, hB, he1, heN, hN8, hrc, r0, r1, t0, t1, zN, z16, hsm, hrl2, htl2⟩ := id Is
  have hfcN := If.1
  have hbcN := Ib.1
  have nzl := own_nat zl (by omega)
  have loop : ∀ (k : Nat) (Tl : State) (hl : Heap) (Ll : List Loc) (bcl : Nat) (brl : Int32) (bll : List Value), Stand p l ev ({ frames := 2, cells := 0, slots := 0, locals := 30 } : Room) s m #[(.ref so), (.int (Int32.ofNat jj))] below meth c Tl Ll 0 0 → Tl.heap = hl → Fr n0 Ll → own_W Z hl n0 so rs rt fs bs kr kt kf kb rl tl fl bll zl [(.ref rs), (.ref rt), (.int rc), (.int (Int32.ofNat N)), (.long sm), (.ref fs), (.int (Int32.ofNat fc)), (.int fr), (.ref bs), (.int (Int32.ofNat bcl)), (.int brl), (.int los), (.int lo), (.long gb), (.long ga)] → own_Ib A B e N rc zl bll bcl brl → jj ≤ bcl + k → Rch p ev below (EndQ (Qrmla0b Z so A B e N rc lo ga fc bc jj h0 n0) s ({ frames := 2, cells := 0, slots := 0, locals := 30 } : Room).cells ({ frames := 2, cells := 0, slots := 0, locals := 30 } : Room).slots) Tl (mkF m 47 #[.val (.ref so), .val (.int (Int32.ofNat jj))] []) := by
    intro k
    induction k with
    | zero =>
      intro Tl hl Ll bcl brl bll Xl el Nl Wl hinv hk
      obtain ⟨hc1, hc2, hc3, hvals⟩ := id hinv
      show Rch p ev below _ Tl (mkF m 47 #[.val (.ref so), .val (.int (Int32.ofNat jj))] [])
      refine Rch.go (fun _ q => XS.aloadN Xl.here hx rfl (hb hby dla_47) rfl rfl q) ?_
      show Rch p ev below _ Tl (mkF m 48 #[.val (.ref so), .val (.int (Int32.ofNat jj))] [(.ref so)])
      obtain ⟨T101, X101, e101, st101⟩ := getF Xl hx hZ hown (host := "") (Or.inl (hw _ (List.mem_of_getElem? (i := 37) rfl))) Via.refl el (Wl.2.1 9 _ _ _ rfl rfl) (g := (mkF m 48 #[.val (.ref so), .val (.int (Int32.ofNat jj))] [(.ref so)])) rfl rfl (hb hby dla_48)
      refine Rch.go st101 ?_
      show Rch p ev below _ T101 (mkF m 51 #[.val (.ref so), .val (.int (Int32.ofNat jj))] [(.int (Int32.ofNat bcl))])
      refine Rch.go (fun _ q => XS.iloadN X101.here hx rfl (hb hby dla_51) rfl  q) ?_
      show Rch p ev below _ T101 (mkF m 52 #[.val (.ref so), .val (.int (Int32.ofNat jj))] [(.int (Int32.ofNat jj)), (.int (Int32.ofNat bcl))])
      refine Rch.go (fun _ q => XS.icmpYes X101.here hx rfl (pc0 := 52) (pc' := 130) rfl (hb hby dla_52) rfl (flt (mt (own_lt_N (a := bcl) (b := jj) (by omega) (by omega)).mp (by omega))).2.1 (by decide) (by decide) q) ?_
      show Rch p ev below _ T101 (mkF m 130 #[.val (.ref so), .val (.int (Int32.ofNat jj))] [])
      refine Rch.go (fun _ q => XS.aloadN X101.here hx rfl (hb hby dla_130) rfl rfl q) ?_
      show Rch p ev below _ T101 (mkF m 131 #[.val (.ref so), .val (.int (Int32.ofNat jj))] [(.ref so)])
      obtain ⟨T102, X102, e102, st102⟩ := getF X101 hx hZ hown (host := "") (Or.inl (hw _ (List.mem_of_getElem? (i := 19) rfl))) Via.refl e101 (Wl.2.1 8 _ _ _ rfl rfl) (g := (mkF m 131 #[.val (.ref so), .val (.int (Int32.ofNat jj))] [(.ref so)])) rfl rfl (hb hby dla_131)
      refine Rch.go st102 ?_
      show Rch p ev below _ T102 (mkF m 134 #[.val (.ref so), .val (.int (Int32.ofNat jj))] [(.ref bs)])
      refine Rch.go (fun _ q => XS.iloadN X102.here hx rfl (hb hby dla_134) rfl  q) ?_
      show Rch p ev below _ T102 (mkF m 135 #[.val (.ref so), .val (.int (Int32.ofNat jj))] [(.int (Int32.ofNat jj)), (.ref bs)])
      refine Rch.go (fun _ q => ldJ X102 hx hZ e102 Wl.2.2.2.2.2.1 (j := (Int32.ofNat jj)) (v := (.long (own_L ((own_F A.toInt B.toInt e N) - (own_F A.toInt B.toInt e (N - jj)))))) (own_in_N (by omega) (by omega)) (by rw [own_nat_N (by omega)]; exact hvals jj (by omega)) (g := (mkF m 135 #[.val (.ref so), .val (.int (Int32.ofNat jj))] [(.int (Int32.ofNat jj)), (.ref bs)])) rfl rfl (hb hby dla_135) _ q) ?_
      show Rch p ev below _ T102 (mkF m 136 #[.val (.ref so), .val (.int (Int32.ofNat jj))] [(.long (own_L ((own_F A.toInt B.toInt e N) - (own_F A.toInt B.toInt e (N - jj)))))])
      refine Rch.retJ X102 hx hlk Bd.returns (hb hby dla_136) (by decide) (by decide) ?_
      unfold Qrmla0b
      rw [e102]
      exact ⟨rfl, Nl, fc, bcl, rs, rt, fs, bs, kr, kt, kf, kb, rl, tl, fl, bll, zl, fr, brl, los, sm, gb, Wl, Is, If, hinv⟩
    | succ k ih =>
      intro Tl hl Ll bcl brl bll Xl el Nl Wl hinv hk
      obtain ⟨hc1, hc2, hc3, hvals⟩ := id hinv
      show Rch p ev below _ Tl (mkF m 47 #[.val (.ref so), .val (.int (Int32.ofNat jj))] [])
      refine Rch.go (fun _ q => XS.aloadN Xl.here hx rfl (hb hby dla_47) rfl rfl q) ?_
      show Rch p ev below _ Tl (mkF m 48 #[.val (.ref so), .val (.int (Int32.ofNat jj))] [(.ref so)])
      obtain ⟨T103, X103, e103, st103⟩ := getF Xl hx hZ hown (host := "") (Or.inl (hw _ (List.mem_of_getElem? (i := 37) rfl))) Via.refl el (Wl.2.1 9 _ _ _ rfl rfl) (g := (mkF m 48 #[.val (.ref so), .val (.int (Int32.ofNat jj))] [(.ref so)])) rfl rfl (hb hby dla_48)
      refine Rch.go st103 ?_
      show Rch p ev below _ T103 (mkF m 51 #[.val (.ref so), .val (.int (Int32.ofNat jj))] [(.int (Int32.ofNat bcl))])
      refine Rch.go (fun _ q => XS.iloadN X103.here hx rfl (hb hby dla_51) rfl  q) ?_
      show Rch p ev below _ T103 (mkF m 52 #[.val (.ref so), .val (.int (Int32.ofNat jj))] [(.int (Int32.ofNat jj)), (.int (Int32.ofNat bcl))])
      by_cases hc52 : bcl < jj
      · skip
        refine Rch.go (fun _ q => XS.icmpNo X103.here hx rfl (hb hby dla_52) rfl (tlt ((own_lt_N (a := bcl) (b := jj) (by omega) (by omega)).mpr hc52)).2.1 q) ?_
        show Rch p ev below _ T103 (mkF m 55 #[.val (.ref so), .val (.int (Int32.ofNat jj))] [])
        rcases hc2 with ⟨hr, hbr⟩ | ⟨hr, ⟨hbr, hbe⟩ | ⟨hbr, hbe⟩⟩
        · subst hbr
          have hen : e = N := by rcases hrc with ⟨q, q2⟩ | ⟨q, q2⟩; exact q2; rw [hr] at q; exact absurd q (by decide)
          show Rch p ev below _ T103 (mkF m 55 #[.val (.ref so), .val (.int (Int32.ofNat jj))] [])
          refine Rch.go (fun _ q => XS.aloadN X103.here hx rfl (hb hby dla_55) rfl rfl q) ?_
          show Rch p ev below _ T103 (mkF m 56 #[.val (.ref so), .val (.int (Int32.ofNat jj))] [(.ref so)])
          obtain ⟨T104, X104, e104, st104⟩ := getF X103 hx hZ hown (host := "") (Or.inl (hw _ (List.mem_of_getElem? (i := 33) rfl))) Via.refl e103 (Wl.2.1 3 _ _ _ rfl rfl) (g := (mkF m 56 #[.val (.ref so), .val (.int (Int32.ofNat jj))] [(.ref so)])) rfl rfl (hb hby dla_56)
          refine Rch.go st104 ?_
          show Rch p ev below _ T104 (mkF m 59 #[.val (.ref so), .val (.int (Int32.ofNat jj))] [(.int (Int32.ofNat N))])
          refine Rch.go (fun _ q => XS.aloadN X104.here hx rfl (hb hby dla_59) rfl rfl q) ?_
          show Rch p ev below _ T104 (mkF m 60 #[.val (.ref so), .val (.int (Int32.ofNat jj))] [(.ref so), (.int (Int32.ofNat N))])
          obtain ⟨T105, X105, e105, st105⟩ := getF X104 hx hZ hown (host := "") (Or.inl (hw _ (List.mem_of_getElem? (i := 37) rfl))) Via.refl e104 (Wl.2.1 9 _ _ _ rfl rfl) (g := (mkF m 60 #[.val (.ref so), .val (.int (Int32.ofNat jj))] [(.ref so), (.int (Int32.ofNat N))])) rfl rfl (hb hby dla_60)
          refine Rch.go st105 ?_
          show Rch p ev below _ T105 (mkF m 63 #[.val (.ref so), .val (.int (Int32.ofNat jj))] [(.int (Int32.ofNat bcl)), (.int (Int32.ofNat N))])
          refine Rch.go (fun _ q => XS.isub X105.here hx rfl (hb hby dla_63) rfl q) ?_
          show Rch p ev below _ T105 (mkF m 64 #[.val (.ref so), .val (.int (Int32.ofNat jj))] [(.int ((Int32.ofNat N) - (Int32.ofNat bcl)))])
          rw [show (Int32.ofNat N - Int32.ofNat bcl) = (Int32.ofNat (N - bcl)) from (own_sub_N (by omega) (by omega))]
          show Rch p ev below _ T105 (mkF m 64 #[.val (.ref so), .val (.int (Int32.ofNat jj))] [(.int (Int32.ofNat (N - bcl)))])
          refine Rch.go (fun _ q => XS.aloadN X105.here hx rfl (hb hby dla_64) rfl rfl q) ?_
          show Rch p ev below _ T105 (mkF m 65 #[.val (.ref so), .val (.int (Int32.ofNat jj))] [(.ref so), (.int (Int32.ofNat (N - bcl)))])
          obtain ⟨T106, X106, e106, st106⟩ := getF X105 hx hZ hown (host := "") (Or.inl (hw _ (List.mem_of_getElem? (i := 24) rfl))) Via.refl e105 (Wl.2.1 1 _ _ _ rfl rfl) (g := (mkF m 65 #[.val (.ref so), .val (.int (Int32.ofNat jj))] [(.ref so), (.int (Int32.ofNat (N - bcl)))])) rfl rfl (hb hby dla_65)
          refine Rch.go st106 ?_
          show Rch p ev below _ T106 (mkF m 68 #[.val (.ref so), .val (.int (Int32.ofNat jj))] [(.ref rt), (.int (Int32.ofNat (N - bcl)))])
          refine Rch.go (fun _ q => XS.aloadN X106.here hx rfl (hb hby dla_68) rfl rfl q) ?_
          show Rch p ev below _ T106 (mkF m 69 #[.val (.ref so), .val (.int (Int32.ofNat jj))] [(.ref so), (.ref rt), (.int (Int32.ofNat (N - bcl)))])
          obtain ⟨T107, X107, e107, st107⟩ := getF X106 hx hZ hown (host := "") (Or.inl (hw _ (List.mem_of_getElem? (i := 39) rfl))) Via.refl e106 (Wl.2.1 10 _ _ _ rfl rfl) (g := (mkF m 69 #[.val (.ref so), .val (.int (Int32.ofNat jj))] [(.ref so), (.ref rt), (.int (Int32.ofNat (N - bcl)))])) rfl rfl (hb hby dla_69)
          refine Rch.go st107 ?_
          show Rch p ev below _ T107 (mkF m 72 #[.val (.ref so), .val (.int (Int32.ofNat jj))] [(.int (0 : Int32)), (.ref rt), (.int (Int32.ofNat (N - bcl)))])
          refine Rch.go (fun _ q => ldI X107 hx hZ e107 Wl.2.2.2.1 (j := (0 : Int32)) (v := (.int (0 : Int32))) (by decide) t0 (g := (mkF m 72 #[.val (.ref so), .val (.int (Int32.ofNat jj))] [(.int (0 : Int32)), (.ref rt), (.int (Int32.ofNat (N - bcl)))])) rfl rfl (hb hby dla_72) _ q) ?_
          show Rch p ev below _ T107 (mkF m 73 #[.val (.ref so), .val (.int (Int32.ofNat jj))] [(.int (0 : Int32)), (.int (Int32.ofNat (N - bcl)))])
          refine Rch.go (fun _ q => XS.icmpYes X107.here hx rfl (pc0 := 73) (pc' := 86) rfl (hb hby dla_73) rfl (feq (mt (own_eq_N (a := N - bcl) (b := 0) (by omega) (by omega)).mp (by omega))).2 (by decide) (by decide) q) ?_
          show Rch p ev below _ T107 (mkF m 86 #[.val (.ref so), .val (.int (Int32.ofNat jj))] [])
          refine Rch.go (fun _ q => XS.aloadN X107.here hx rfl (hb hby dla_86) rfl rfl q) ?_
          show Rch p ev below _ T107 (mkF m 87 #[.val (.ref so), .val (.int (Int32.ofNat jj))] [(.ref so)])
          obtain ⟨T108, X108, e108, st108⟩ := getF X107 hx hZ hown (host := "") (Or.inl (hw _ (List.mem_of_getElem? (i := 19) rfl))) Via.refl e107 (Wl.2.1 8 _ _ _ rfl rfl) (g := (mkF m 87 #[.val (.ref so), .val (.int (Int32.ofNat jj))] [(.ref so)])) rfl rfl (hb hby dla_87)
          refine Rch.go st108 ?_
          show Rch p ev below _ T108 (mkF m 90 #[.val (.ref so), .val (.int (Int32.ofNat jj))] [(.ref bs)])
          refine Rch.go (fun _ q => XS.aloadN X108.here hx rfl (hb hby dla_90) rfl rfl q) ?_
          show Rch p ev below _ T108 (mkF m 91 #[.val (.ref so), .val (.int (Int32.ofNat jj))] [(.ref so), (.ref bs)])
          obtain ⟨T109, X109, e109, st109⟩ := getF X108 hx hZ hown (host := "") (Or.inl (hw _ (List.mem_of_getElem? (i := 37) rfl))) Via.refl e108 (Wl.2.1 9 _ _ _ rfl rfl) (g := (mkF m 91 #[.val (.ref so), .val (.int (Int32.ofNat jj))] [(.ref so), (.ref bs)])) rfl rfl (hb hby dla_91)
          refine Rch.go st109 ?_
          show Rch p ev below _ T109 (mkF m 94 #[.val (.ref so), .val (.int (Int32.ofNat jj))] [(.int (Int32.ofNat bcl)), (.ref bs)])
          refine Rch.go (fun _ q => XS.iconst X109.here hx rfl (hb hby dla_94) q) ?_
          show Rch p ev below _ T109 (mkF m 95 #[.val (.ref so), .val (.int (Int32.ofNat jj))] [(.int (1 : Int32)), (.int (Int32.ofNat bcl)), (.ref bs)])
          refine Rch.go (fun _ q => XS.iadd X109.here hx rfl (hb hby dla_95) rfl q) ?_
          show Rch p ev below _ T109 (mkF m 96 #[.val (.ref so), .val (.int (Int32.ofNat jj))] [(.int ((Int32.ofNat bcl) + (1 : Int32))), (.ref bs)])
          rw [show (Int32.ofNat bcl + (1 : Int32)) = (Int32.ofNat (bcl + 1)) from (own_add1_N (by omega))]
          show Rch p ev below _ T109 (mkF m 96 #[.val (.ref so), .val (.int (Int32.ofNat jj))] [(.int (Int32.ofNat (bcl + 1))), (.ref bs)])
          refine Rch.go (fun _ q => XS.aloadN X109.here hx rfl (hb hby dla_96) rfl rfl q) ?_
          show Rch p ev below _ T109 (mkF m 97 #[.val (.ref so), .val (.int (Int32.ofNat jj))] [(.ref so), (.int (Int32.ofNat (bcl + 1))), (.ref bs)])
          obtain ⟨T110, X110, e110, st110⟩ := getF X109 hx hZ hown (host := "") (Or.inl (hw _ (List.mem_of_getElem? (i := 19) rfl))) Via.refl e109 (Wl.2.1 8 _ _ _ rfl rfl) (g := (mkF m 97 #[.val (.ref so), .val (.int (Int32.ofNat jj))] [(.ref so), (.int (Int32.ofNat (bcl + 1))), (.ref bs)])) rfl rfl (hb hby dla_97)
          refine Rch.go st110 ?_
          show Rch p ev below _ T110 (mkF m 100 #[.val (.ref so), .val (.int (Int32.ofNat jj))] [(.ref bs), (.int (Int32.ofNat (bcl + 1))), (.ref bs)])
          refine Rch.go (fun _ q => XS.aloadN X110.here hx rfl (hb hby dla_100) rfl rfl q) ?_
          show Rch p ev below _ T110 (mkF m 101 #[.val (.ref so), .val (.int (Int32.ofNat jj))] [(.ref so), (.ref bs), (.int (Int32.ofNat (bcl + 1))), (.ref bs)])
          obtain ⟨T111, X111, e111, st111⟩ := getF X110 hx hZ hown (host := "") (Or.inl (hw _ (List.mem_of_getElem? (i := 37) rfl))) Via.refl e110 (Wl.2.1 9 _ _ _ rfl rfl) (g := (mkF m 101 #[.val (.ref so), .val (.int (Int32.ofNat jj))] [(.ref so), (.ref bs), (.int (Int32.ofNat (bcl + 1))), (.ref bs)])) rfl rfl (hb hby dla_101)
          refine Rch.go st111 ?_
          show Rch p ev below _ T111 (mkF m 104 #[.val (.ref so), .val (.int (Int32.ofNat jj))] [(.int (Int32.ofNat bcl)), (.ref bs), (.int (Int32.ofNat (bcl + 1))), (.ref bs)])
          refine Rch.go (fun _ q => ldJ X111 hx hZ e111 Wl.2.2.2.2.2.1 (j := (Int32.ofNat bcl)) (v := (.long (own_L ((own_F A.toInt B.toInt e N) - (own_F A.toInt B.toInt e (N - bcl)))))) (own_in_N (by omega) (by omega)) (by rw [own_nat_N (by omega)]; exact hvals bcl (Nat.le_refl _)) (g := (mkF m 104 #[.val (.ref so), .val (.int (Int32.ofNat jj))] [(.int (Int32.ofNat bcl)), (.ref bs), (.int (Int32.ofNat (bcl + 1))), (.ref bs)])) rfl rfl (hb hby dla_104) _ q) ?_
          show Rch p ev below _ T111 (mkF m 105 #[.val (.ref so), .val (.int (Int32.ofNat jj))] [(.long (own_L ((own_F A.toInt B.toInt e N) - (own_F A.toInt B.toInt e (N - bcl))))), (.int (Int32.ofNat (bcl + 1))), (.ref bs)])
          refine Rch.go (fun _ q => XS.aloadN X111.here hx rfl (hb hby dla_105) rfl rfl q) ?_
          show Rch p ev below _ T111 (mkF m 106 #[.val (.ref so), .val (.int (Int32.ofNat jj))] [(.ref so), (.long (own_L ((own_F A.toInt B.toInt e N) - (own_F A.toInt B.toInt e (N - bcl))))), (.int (Int32.ofNat (bcl + 1))), (.ref bs)])
          obtain ⟨T112, X112, e112, st112⟩ := getF X111 hx hZ hown (host := "") (Or.inl (hw _ (List.mem_of_getElem? (i := 22) rfl))) Via.refl e111 (Wl.2.1 0 _ _ _ rfl rfl) (g := (mkF m 106 #[.val (.ref so), .val (.int (Int32.ofNat jj))] [(.ref so), (.long (own_L ((own_F A.toInt B.toInt e N) - (own_F A.toInt B.toInt e (N - bcl))))), (.int (Int32.ofNat (bcl + 1))), (.ref bs)])) rfl rfl (hb hby dla_106)
          refine Rch.go st112 ?_
          show Rch p ev below _ T112 (mkF m 109 #[.val (.ref so), .val (.int (Int32.ofNat jj))] [(.ref rs), (.long (own_L ((own_F A.toInt B.toInt e N) - (own_F A.toInt B.toInt e (N - bcl))))), (.int (Int32.ofNat (bcl + 1))), (.ref bs)])
          refine Rch.go (fun _ q => XS.aloadN X112.here hx rfl (hb hby dla_109) rfl rfl q) ?_
          show Rch p ev below _ T112 (mkF m 110 #[.val (.ref so), .val (.int (Int32.ofNat jj))] [(.ref so), (.ref rs), (.long (own_L ((own_F A.toInt B.toInt e N) - (own_F A.toInt B.toInt e (N - bcl))))), (.int (Int32.ofNat (bcl + 1))), (.ref bs)])
          obtain ⟨T113, X113, e113, st113⟩ := getF X112 hx hZ hown (host := "") (Or.inl (hw _ (List.mem_of_getElem? (i := 39) rfl))) Via.refl e112 (Wl.2.1 10 _ _ _ rfl rfl) (g := (mkF m 110 #[.val (.ref so), .val (.int (Int32.ofNat jj))] [(.ref so), (.ref rs), (.long (own_L ((own_F A.toInt B.toInt e N) - (own_F A.toInt B.toInt e (N - bcl))))), (.int (Int32.ofNat (bcl + 1))), (.ref bs)])) rfl rfl (hb hby dla_110)
          refine Rch.go st113 ?_
          show Rch p ev below _ T113 (mkF m 113 #[.val (.ref so), .val (.int (Int32.ofNat jj))] [(.int (0 : Int32)), (.ref rs), (.long (own_L ((own_F A.toInt B.toInt e N) - (own_F A.toInt B.toInt e (N - bcl))))), (.int (Int32.ofNat (bcl + 1))), (.ref bs)])
          refine Rch.go (fun _ q => ldI X113 hx hZ e113 Wl.2.2.1 (j := (0 : Int32)) (v := (.int A)) (by decide) r0 (g := (mkF m 113 #[.val (.ref so), .val (.int (Int32.ofNat jj))] [(.int (0 : Int32)), (.ref rs), (.long (own_L ((own_F A.toInt B.toInt e N) - (own_F A.toInt B.toInt e (N - bcl))))), (.int (Int32.ofNat (bcl + 1))), (.ref bs)])) rfl rfl (hb hby dla_113) _ q) ?_
          show Rch p ev below _ T113 (mkF m 114 #[.val (.ref so), .val (.int (Int32.ofNat jj))] [(.int A), (.long (own_L ((own_F A.toInt B.toInt e N) - (own_F A.toInt B.toInt e (N - bcl))))), (.int (Int32.ofNat (bcl + 1))), (.ref bs)])
          refine Rch.go (fun _ q => XS.i2l X113.here hx rfl (hb hby dla_114) rfl q) ?_
          show Rch p ev below _ T113 (mkF m 115 #[.val (.ref so), .val (.int (Int32.ofNat jj))] [(.long (A.toInt64)), (.long (own_L ((own_F A.toInt B.toInt e N) - (own_F A.toInt B.toInt e (N - bcl))))), (.int (Int32.ofNat (bcl + 1))), (.ref bs)])
          refine Rch.go (fun _ q => XS.ladd X113.here hx rfl (hb hby dla_115) rfl q) ?_
          show Rch p ev below _ T113 (mkF m 116 #[.val (.ref so), .val (.int (Int32.ofNat jj))] [(.long ((own_L ((own_F A.toInt B.toInt e N) - (own_F A.toInt B.toInt e (N - bcl)))) + (A.toInt64))), (.int (Int32.ofNat (bcl + 1))), (.ref bs)])
          have hstep : (own_F A.toInt B.toInt e (N - bcl)) = (own_F A.toInt B.toInt e (N - (bcl + 1))) + A.toInt := by
            have q : N - bcl = (N - (bcl + 1)) + 1 := by omega
            rw [q, own_F, if_pos (by omega)]
          rw [show (own_L ((own_F A.toInt B.toInt e N) - (own_F A.toInt B.toInt e (N - bcl))) + (A.toInt64)) = (own_L ((own_F A.toInt B.toInt e N) - (own_F A.toInt B.toInt e (N - (bcl + 1))))) from (by rw [own_L_i2l, own_L_add]; congr 1; omega)]
          show Rch p ev below _ T113 (mkF m 116 #[.val (.ref so), .val (.int (Int32.ofNat jj))] [(.long (own_L ((own_F A.toInt B.toInt e N) - (own_F A.toInt B.toInt e (N - (bcl + 1)))))), (.int (Int32.ofNat (bcl + 1))), (.ref bs)])
          obtain ⟨T114, h114, X114, e114, W114, V114, st114⟩ := sdJ X113 hx hZ e113 Wl.2.2.2.2.2.1 (j := (Int32.ofNat (bcl + 1))) (own_in_N (by omega) (by omega)) (bcl + 1) (own_nat_N (by omega)) (by rw [hc3]; omega) (g := (mkF m 116 #[.val (.ref so), .val (.int (Int32.ofNat jj))] [(.long (own_L ((own_F A.toInt B.toInt e N) - (own_F A.toInt B.toInt e (N - (bcl + 1)))))), (.int (Int32.ofNat (bcl + 1))), (.ref bs)])) rfl rfl (hb hby dla_116)
          have N114 := Fr.snoc X114 Nl Wl.2.2.2.2.2.2.1.2.2.2.2.1
          have WW114 : own_W Z h114 n0 so rs rt fs bs kr kt kf kb rl tl fl (bll.set (bcl + 1) (.long (own_L ((own_F A.toInt B.toInt e N) - (own_F A.toInt B.toInt e (N - (bcl + 1))))))) zl [(.ref rs), (.ref rt), (.int rc), (.int (Int32.ofNat N)), (.long sm), (.ref fs), (.int (Int32.ofNat fc)), (.int fr), (.ref bs), (.int (Int32.ofNat bcl)), (.int (0 : Int32)), (.int los), (.int lo), (.long gb), (.long ga)] := own_W_bs Wl W114 V114
          refine Rch.go st114 ?_
          show Rch p ev below _ T114 (mkF m 117 #[.val (.ref so), .val (.int (Int32.ofNat jj))] [])
          refine Rch.go (fun _ q => XS.aloadN X114.here hx rfl (hb hby dla_117) rfl rfl q) ?_
          show Rch p ev below _ T114 (mkF m 118 #[.val (.ref so), .val (.int (Int32.ofNat jj))] [(.ref so)])
          refine Rch.go (fun _ q => XS.dup X114.here hx rfl (hb hby dla_118) rfl rfl q) ?_
          show Rch p ev below _ T114 (mkF m 119 #[.val (.ref so), .val (.int (Int32.ofNat jj))] [(.ref so), (.ref so)])
          obtain ⟨T115, X115, e115, st115⟩ := getF X114 hx hZ hown (host := "") (Or.inl (hw _ (List.mem_of_getElem? (i := 37) rfl))) Via.refl e114 (WW114.2.1 9 _ _ _ rfl rfl) (g := (mkF m 119 #[.val (.ref so), .val (.int (Int32.ofNat jj))] [(.ref so), (.ref so)])) rfl rfl (hb hby dla_119)
          refine Rch.go st115 ?_
          show Rch p ev below _ T115 (mkF m 122 #[.val (.ref so), .val (.int (Int32.ofNat jj))] [(.int (Int32.ofNat bcl)), (.ref so)])
          refine Rch.go (fun _ q => XS.iconst X115.here hx rfl (hb hby dla_122) q) ?_
          show Rch p ev below _ T115 (mkF m 123 #[.val (.ref so), .val (.int (Int32.ofNat jj))] [(.int (1 : Int32)), (.int (Int32.ofNat bcl)), (.ref so)])
          refine Rch.go (fun _ q => XS.iadd X115.here hx rfl (hb hby dla_123) rfl q) ?_
          show Rch p ev below _ T115 (mkF m 124 #[.val (.ref so), .val (.int (Int32.ofNat jj))] [(.int ((Int32.ofNat bcl) + (1 : Int32))), (.ref so)])
          rw [show (Int32.ofNat bcl + (1 : Int32)) = (Int32.ofNat (bcl + 1)) from (own_add1_N (by omega))]
          show Rch p ev below _ T115 (mkF m 124 #[.val (.ref so), .val (.int (Int32.ofNat jj))] [(.int (Int32.ofNat (bcl + 1))), (.ref so)])
          obtain ⟨T116, h116, X116, e116, W116, st116⟩ := putF X115 hx hZ hown (host := "") (Or.inl (hw _ (List.mem_of_getElem? (i := 37) rfl))) Via.refl e115 (WW114.2.1 9 _ _ _ rfl rfl) WW114.1 (Or.inl (hw _ (List.mem_of_getElem? (i := 38) rfl))) (hw _ (List.mem_of_getElem? (i := 8) rfl)) (ty := .int) (by decide) rfl rfl (g := (mkF m 124 #[.val (.ref so), .val (.int (Int32.ofNat jj))] [(.int (Int32.ofNat (bcl + 1))), (.ref so)])) rfl rfl (hb hby dla_124)
          have N116 := Fr.snoc X116 N114 WW114.2.2.2.2.2.2.1.1
          have Z116 : n0 ≤ h116.size := by rw [W116.size]; exact WW114.2.2.2.2.2.2.1.2.2.2.2.2
          refine Rch.go st116 ?_
          show Rch p ev below _ T116 (mkF m 127 #[.val (.ref so), .val (.int (Int32.ofNat jj))] [])
          have WW116 : own_W Z h116 n0 so rs rt fs bs kr kt kf kb rl tl fl (bll.set (bcl + 1) (.long (own_L ((own_F A.toInt B.toInt e N) - (own_F A.toInt B.toInt e (N - (bcl + 1))))))) zl [(.ref rs), (.ref rt), (.int rc), (.int (Int32.ofNat N)), (.long sm), (.ref fs), (.int (Int32.ofNat fc)), (.int fr), (.ref bs), (.int (Int32.ofNat (bcl + 1))), (.int (0 : Int32)), (.int los), (.int lo), (.long gb), (.long ga)] := own_W_put hw WW114 9 rfl W116
          refine Rch.go (fun _ q => XS.goto X116.here hx rfl (pc0 := 127) (pc' := 47) rfl (hb hby dla_127) (by decide) (by decide) q) ?_
          show Rch p ev below _ T116 (mkF m 47 #[.val (.ref so), .val (.int (Int32.ofNat jj))] [])
          exact ih _ _ _ (bcl + 1) (0 : Int32) _ X116 e116 N116 WW116 ⟨by omega, Or.inl ⟨hr, rfl⟩, by rw [List.length_set]; exact hc3, fun i hi => by
            rw [own_getD_set _ _ _ _ _ (by rw [hc3]; omega)]
            by_cases q : i = bcl + 1
            · rw [if_pos q, q]
            · rw [if_neg q]; exact hvals i (by omega)⟩ (by omega)
        · subst hbr
          have hen : e < N := by rcases hrc with ⟨q, q2⟩ | ⟨q, q2⟩; (rw [hr] at q; exact absurd q (by decide)); exact q2
          show Rch p ev below _ T103 (mkF m 55 #[.val (.ref so), .val (.int (Int32.ofNat jj))] [])
          refine Rch.go (fun _ q => XS.aloadN X103.here hx rfl (hb hby dla_55) rfl rfl q) ?_
          show Rch p ev below _ T103 (mkF m 56 #[.val (.ref so), .val (.int (Int32.ofNat jj))] [(.ref so)])
          obtain ⟨T117, X117, e117, st117⟩ := getF X103 hx hZ hown (host := "") (Or.inl (hw _ (List.mem_of_getElem? (i := 33) rfl))) Via.refl e103 (Wl.2.1 3 _ _ _ rfl rfl) (g := (mkF m 56 #[.val (.ref so), .val (.int (Int32.ofNat jj))] [(.ref so)])) rfl rfl (hb hby dla_56)
          refine Rch.go st117 ?_
          show Rch p ev below _ T117 (mkF m 59 #[.val (.ref so), .val (.int (Int32.ofNat jj))] [(.int (Int32.ofNat N))])
          refine Rch.go (fun _ q => XS.aloadN X117.here hx rfl (hb hby dla_59) rfl rfl q) ?_
          show Rch p ev below _ T117 (mkF m 60 #[.val (.ref so), .val (.int (Int32.ofNat jj))] [(.ref so), (.int (Int32.ofNat N))])
          obtain ⟨T118, X118, e118, st118⟩ := getF X117 hx hZ hown (host := "") (Or.inl (hw _ (List.mem_of_getElem? (i := 37) rfl))) Via.refl e117 (Wl.2.1 9 _ _ _ rfl rfl) (g := (mkF m 60 #[.val (.ref so), .val (.int (Int32.ofNat jj))] [(.ref so), (.int (Int32.ofNat N))])) rfl rfl (hb hby dla_60)
          refine Rch.go st118 ?_
          show Rch p ev below _ T118 (mkF m 63 #[.val (.ref so), .val (.int (Int32.ofNat jj))] [(.int (Int32.ofNat bcl)), (.int (Int32.ofNat N))])
          refine Rch.go (fun _ q => XS.isub X118.here hx rfl (hb hby dla_63) rfl q) ?_
          show Rch p ev below _ T118 (mkF m 64 #[.val (.ref so), .val (.int (Int32.ofNat jj))] [(.int ((Int32.ofNat N) - (Int32.ofNat bcl)))])
          rw [show (Int32.ofNat N - Int32.ofNat bcl) = (Int32.ofNat (N - bcl)) from (own_sub_N (by omega) (by omega))]
          show Rch p ev below _ T118 (mkF m 64 #[.val (.ref so), .val (.int (Int32.ofNat jj))] [(.int (Int32.ofNat (N - bcl)))])
          refine Rch.go (fun _ q => XS.aloadN X118.here hx rfl (hb hby dla_64) rfl rfl q) ?_
          show Rch p ev below _ T118 (mkF m 65 #[.val (.ref so), .val (.int (Int32.ofNat jj))] [(.ref so), (.int (Int32.ofNat (N - bcl)))])
          obtain ⟨T119, X119, e119, st119⟩ := getF X118 hx hZ hown (host := "") (Or.inl (hw _ (List.mem_of_getElem? (i := 24) rfl))) Via.refl e118 (Wl.2.1 1 _ _ _ rfl rfl) (g := (mkF m 65 #[.val (.ref so), .val (.int (Int32.ofNat jj))] [(.ref so), (.int (Int32.ofNat (N - bcl)))])) rfl rfl (hb hby dla_65)
          refine Rch.go st119 ?_
          show Rch p ev below _ T119 (mkF m 68 #[.val (.ref so), .val (.int (Int32.ofNat jj))] [(.ref rt), (.int (Int32.ofNat (N - bcl)))])
          refine Rch.go (fun _ q => XS.aloadN X119.here hx rfl (hb hby dla_68) rfl rfl q) ?_
          show Rch p ev below _ T119 (mkF m 69 #[.val (.ref so), .val (.int (Int32.ofNat jj))] [(.ref so), (.ref rt), (.int (Int32.ofNat (N - bcl)))])
          obtain ⟨T120, X120, e120, st120⟩ := getF X119 hx hZ hown (host := "") (Or.inl (hw _ (List.mem_of_getElem? (i := 39) rfl))) Via.refl e119 (Wl.2.1 10 _ _ _ rfl rfl) (g := (mkF m 69 #[.val (.ref so), .val (.int (Int32.ofNat jj))] [(.ref so), (.ref rt), (.int (Int32.ofNat (N - bcl)))])) rfl rfl (hb hby dla_69)
          refine Rch.go st120 ?_
          show Rch p ev below _ T120 (mkF m 72 #[.val (.ref so), .val (.int (Int32.ofNat jj))] [(.int (1 : Int32)), (.ref rt), (.int (Int32.ofNat (N - bcl)))])
          refine Rch.go (fun _ q => ldI X120 hx hZ e120 Wl.2.2.2.1 (j := (1 : Int32)) (v := (.int (Int32.ofNat e))) (by decide) (t1 hr) (g := (mkF m 72 #[.val (.ref so), .val (.int (Int32.ofNat jj))] [(.int (1 : Int32)), (.ref rt), (.int (Int32.ofNat (N - bcl)))])) rfl rfl (hb hby dla_72) _ q) ?_
          show Rch p ev below _ T120 (mkF m 73 #[.val (.ref so), .val (.int (Int32.ofNat jj))] [(.int (Int32.ofNat e)), (.int (Int32.ofNat (N - bcl)))])
          by_cases hc73 : N - bcl = e
          · skip
            refine Rch.go (fun _ q => XS.icmpNo X120.here hx rfl (hb hby dla_73) rfl (teq (((own_eq_N (a := N - bcl) (b := e) (by omega) (by omega)).mpr hc73))).2 q) ?_
            show Rch p ev below _ T120 (mkF m 76 #[.val (.ref so), .val (.int (Int32.ofNat jj))] [])
            refine Rch.go (fun _ q => XS.aloadN X120.here hx rfl (hb hby dla_76) rfl rfl q) ?_
            show Rch p ev below _ T120 (mkF m 77 #[.val (.ref so), .val (.int (Int32.ofNat jj))] [(.ref so)])
            refine Rch.go (fun _ q => XS.dup X120.here hx rfl (hb hby dla_77) rfl rfl q) ?_
            show Rch p ev below _ T120 (mkF m 78 #[.val (.ref so), .val (.int (Int32.ofNat jj))] [(.ref so), (.ref so)])
            obtain ⟨T121, X121, e121, st121⟩ := getF X120 hx hZ hown (host := "") (Or.inl (hw _ (List.mem_of_getElem? (i := 39) rfl))) Via.refl e120 (Wl.2.1 10 _ _ _ rfl rfl) (g := (mkF m 78 #[.val (.ref so), .val (.int (Int32.ofNat jj))] [(.ref so), (.ref so)])) rfl rfl (hb hby dla_78)
            refine Rch.go st121 ?_
            show Rch p ev below _ T121 (mkF m 81 #[.val (.ref so), .val (.int (Int32.ofNat jj))] [(.int (1 : Int32)), (.ref so)])
            refine Rch.go (fun _ q => XS.iconst X121.here hx rfl (hb hby dla_81) q) ?_
            show Rch p ev below _ T121 (mkF m 82 #[.val (.ref so), .val (.int (Int32.ofNat jj))] [(.int (1 : Int32)), (.int (1 : Int32)), (.ref so)])
            refine Rch.go (fun _ q => XS.isub X121.here hx rfl (hb hby dla_82) rfl q) ?_
            show Rch p ev below _ T121 (mkF m 83 #[.val (.ref so), .val (.int (Int32.ofNat jj))] [(.int ((1 : Int32) - (1 : Int32))), (.ref so)])
            rw [show ((1 : Int32) - (1 : Int32)) = (0 : Int32) from (by decide)]
            show Rch p ev below _ T121 (mkF m 83 #[.val (.ref so), .val (.int (Int32.ofNat jj))] [(.int (0 : Int32)), (.ref so)])
            obtain ⟨T122, h122, X122, e122, W122, st122⟩ := putF X121 hx hZ hown (host := "") (Or.inl (hw _ (List.mem_of_getElem? (i := 39) rfl))) Via.refl e121 (Wl.2.1 10 _ _ _ rfl rfl) Wl.1 (Or.inl (hw _ (List.mem_of_getElem? (i := 40) rfl))) (hw _ (List.mem_of_getElem? (i := 8) rfl)) (ty := .int) (by decide) rfl rfl (g := (mkF m 83 #[.val (.ref so), .val (.int (Int32.ofNat jj))] [(.int (0 : Int32)), (.ref so)])) rfl rfl (hb hby dla_83)
            have N122 := Fr.snoc X122 Nl Wl.2.2.2.2.2.2.1.1
            have Z122 : n0 ≤ h122.size := by rw [W122.size]; exact Wl.2.2.2.2.2.2.1.2.2.2.2.2
            refine Rch.go st122 ?_
            show Rch p ev below _ T122 (mkF m 86 #[.val (.ref so), .val (.int (Int32.ofNat jj))] [])
            have WW122 : own_W Z h122 n0 so rs rt fs bs kr kt kf kb rl tl fl bll zl [(.ref rs), (.ref rt), (.int rc), (.int (Int32.ofNat N)), (.long sm), (.ref fs), (.int (Int32.ofNat fc)), (.int fr), (.ref bs), (.int (Int32.ofNat bcl)), (.int (0 : Int32)), (.int los), (.int lo), (.long gb), (.long ga)] := own_W_put hw Wl 10 rfl W122
            refine Rch.go (fun _ q => XS.aloadN X122.here hx rfl (hb hby dla_86) rfl rfl q) ?_
            show Rch p ev below _ T122 (mkF m 87 #[.val (.ref so), .val (.int (Int32.ofNat jj))] [(.ref so)])
            obtain ⟨T123, X123, e123, st123⟩ := getF X122 hx hZ hown (host := "") (Or.inl (hw _ (List.mem_of_getElem? (i := 19) rfl))) Via.refl e122 (WW122.2.1 8 _ _ _ rfl rfl) (g := (mkF m 87 #[.val (.ref so), .val (.int (Int32.ofNat jj))] [(.ref so)])) rfl rfl (hb hby dla_87)
            refine Rch.go st123 ?_
            show Rch p ev below _ T123 (mkF m 90 #[.val (.ref so), .val (.int (Int32.ofNat jj))] [(.ref bs)])
            refine Rch.go (fun _ q => XS.aloadN X123.here hx rfl (hb hby dla_90) rfl rfl q) ?_
            show Rch p ev below _ T123 (mkF m 91 #[.val (.ref so), .val (.int (Int32.ofNat jj))] [(.ref so), (.ref bs)])
            obtain ⟨T124, X124, e124, st124⟩ := getF X123 hx hZ hown (host := "") (Or.inl (hw _ (List.mem_of_getElem? (i := 37) rfl))) Via.refl e123 (WW122.2.1 9 _ _ _ rfl rfl) (g := (mkF m 91 #[.val (.ref so), .val (.int (Int32.ofNat jj))] [(.ref so), (.ref bs)])) rfl rfl (hb hby dla_91)
            refine Rch.go st124 ?_
            show Rch p ev below _ T124 (mkF m 94 #[.val (.ref so), .val (.int (Int32.ofNat jj))] [(.int (Int32.ofNat bcl)), (.ref bs)])
            refine Rch.go (fun _ q => XS.iconst X124.here hx rfl (hb hby dla_94) q) ?_
            show Rch p ev below _ T124 (mkF m 95 #[.val (.ref so), .val (.int (Int32.ofNat jj))] [(.int (1 : Int32)), (.int (Int32.ofNat bcl)), (.ref bs)])
            refine Rch.go (fun _ q => XS.iadd X124.here hx rfl (hb hby dla_95) rfl q) ?_
            show Rch p ev below _ T124 (mkF m 96 #[.val (.ref so), .val (.int (Int32.ofNat jj))] [(.int ((Int32.ofNat bcl) + (1 : Int32))), (.ref bs)])
            rw [show (Int32.ofNat bcl + (1 : Int32)) = (Int32.ofNat (bcl + 1)) from (own_add1_N (by omega))]
            show Rch p ev below _ T124 (mkF m 96 #[.val (.ref so), .val (.int (Int32.ofNat jj))] [(.int (Int32.ofNat (bcl + 1))), (.ref bs)])
            refine Rch.go (fun _ q => XS.aloadN X124.here hx rfl (hb hby dla_96) rfl rfl q) ?_
            show Rch p ev below _ T124 (mkF m 97 #[.val (.ref so), .val (.int (Int32.ofNat jj))] [(.ref so), (.int (Int32.ofNat (bcl + 1))), (.ref bs)])
            obtain ⟨T125, X125, e125, st125⟩ := getF X124 hx hZ hown (host := "") (Or.inl (hw _ (List.mem_of_getElem? (i := 19) rfl))) Via.refl e124 (WW122.2.1 8 _ _ _ rfl rfl) (g := (mkF m 97 #[.val (.ref so), .val (.int (Int32.ofNat jj))] [(.ref so), (.int (Int32.ofNat (bcl + 1))), (.ref bs)])) rfl rfl (hb hby dla_97)
            refine Rch.go st125 ?_
            show Rch p ev below _ T125 (mkF m 100 #[.val (.ref so), .val (.int (Int32.ofNat jj))] [(.ref bs), (.int (Int32.ofNat (bcl + 1))), (.ref bs)])
            refine Rch.go (fun _ q => XS.aloadN X125.here hx rfl (hb hby dla_100) rfl rfl q) ?_
            show Rch p ev below _ T125 (mkF m 101 #[.val (.ref so), .val (.int (Int32.ofNat jj))] [(.ref so), (.ref bs), (.int (Int32.ofNat (bcl + 1))), (.ref bs)])
            obtain ⟨T126, X126, e126, st126⟩ := getF X125 hx hZ hown (host := "") (Or.inl (hw _ (List.mem_of_getElem? (i := 37) rfl))) Via.refl e125 (WW122.2.1 9 _ _ _ rfl rfl) (g := (mkF m 101 #[.val (.ref so), .val (.int (Int32.ofNat jj))] [(.ref so), (.ref bs), (.int (Int32.ofNat (bcl + 1))), (.ref bs)])) rfl rfl (hb hby dla_101)
            refine Rch.go st126 ?_
            show Rch p ev below _ T126 (mkF m 104 #[.val (.ref so), .val (.int (Int32.ofNat jj))] [(.int (Int32.ofNat bcl)), (.ref bs), (.int (Int32.ofNat (bcl + 1))), (.ref bs)])
            refine Rch.go (fun _ q => ldJ X126 hx hZ e126 WW122.2.2.2.2.2.1 (j := (Int32.ofNat bcl)) (v := (.long (own_L ((own_F A.toInt B.toInt e N) - (own_F A.toInt B.toInt e (N - bcl)))))) (own_in_N (by omega) (by omega)) (by rw [own_nat_N (by omega)]; exact hvals bcl (Nat.le_refl _)) (g := (mkF m 104 #[.val (.ref so), .val (.int (Int32.ofNat jj))] [(.int (Int32.ofNat bcl)), (.ref bs), (.int (Int32.ofNat (bcl + 1))), (.ref bs)])) rfl rfl (hb hby dla_104) _ q) ?_
            show Rch p ev below _ T126 (mkF m 105 #[.val (.ref so), .val (.int (Int32.ofNat jj))] [(.long (own_L ((own_F A.toInt B.toInt e N) - (own_F A.toInt B.toInt e (N - bcl))))), (.int (Int32.ofNat (bcl + 1))), (.ref bs)])
            refine Rch.go (fun _ q => XS.aloadN X126.here hx rfl (hb hby dla_105) rfl rfl q) ?_
            show Rch p ev below _ T126 (mkF m 106 #[.val (.ref so), .val (.int (Int32.ofNat jj))] [(.ref so), (.long (own_L ((own_F A.toInt B.toInt e N) - (own_F A.toInt B.toInt e (N - bcl))))), (.int (Int32.ofNat (bcl + 1))), (.ref bs)])
            obtain ⟨T127, X127, e127, st127⟩ := getF X126 hx hZ hown (host := "") (Or.inl (hw _ (List.mem_of_getElem? (i := 22) rfl))) Via.refl e126 (WW122.2.1 0 _ _ _ rfl rfl) (g := (mkF m 106 #[.val (.ref so), .val (.int (Int32.ofNat jj))] [(.ref so), (.long (own_L ((own_F A.toInt B.toInt e N) - (own_F A.toInt B.toInt e (N - bcl))))), (.int (Int32.ofNat (bcl + 1))), (.ref bs)])) rfl rfl (hb hby dla_106)
            refine Rch.go st127 ?_
            show Rch p ev below _ T127 (mkF m 109 #[.val (.ref so), .val (.int (Int32.ofNat jj))] [(.ref rs), (.long (own_L ((own_F A.toInt B.toInt e N) - (own_F A.toInt B.toInt e (N - bcl))))), (.int (Int32.ofNat (bcl + 1))), (.ref bs)])
            refine Rch.go (fun _ q => XS.aloadN X127.here hx rfl (hb hby dla_109) rfl rfl q) ?_
            show Rch p ev below _ T127 (mkF m 110 #[.val (.ref so), .val (.int (Int32.ofNat jj))] [(.ref so), (.ref rs), (.long (own_L ((own_F A.toInt B.toInt e N) - (own_F A.toInt B.toInt e (N - bcl))))), (.int (Int32.ofNat (bcl + 1))), (.ref bs)])
            obtain ⟨T128, X128, e128, st128⟩ := getF X127 hx hZ hown (host := "") (Or.inl (hw _ (List.mem_of_getElem? (i := 39) rfl))) Via.refl e127 (WW122.2.1 10 _ _ _ rfl rfl) (g := (mkF m 110 #[.val (.ref so), .val (.int (Int32.ofNat jj))] [(.ref so), (.ref rs), (.long (own_L ((own_F A.toInt B.toInt e N) - (own_F A.toInt B.toInt e (N - bcl))))), (.int (Int32.ofNat (bcl + 1))), (.ref bs)])) rfl rfl (hb hby dla_110)
            refine Rch.go st128 ?_
            show Rch p ev below _ T128 (mkF m 113 #[.val (.ref so), .val (.int (Int32.ofNat jj))] [(.int (0 : Int32)), (.ref rs), (.long (own_L ((own_F A.toInt B.toInt e N) - (own_F A.toInt B.toInt e (N - bcl))))), (.int (Int32.ofNat (bcl + 1))), (.ref bs)])
            refine Rch.go (fun _ q => ldI X128 hx hZ e128 WW122.2.2.1 (j := (0 : Int32)) (v := (.int A)) (by decide) r0 (g := (mkF m 113 #[.val (.ref so), .val (.int (Int32.ofNat jj))] [(.int (0 : Int32)), (.ref rs), (.long (own_L ((own_F A.toInt B.toInt e N) - (own_F A.toInt B.toInt e (N - bcl))))), (.int (Int32.ofNat (bcl + 1))), (.ref bs)])) rfl rfl (hb hby dla_113) _ q) ?_
            show Rch p ev below _ T128 (mkF m 114 #[.val (.ref so), .val (.int (Int32.ofNat jj))] [(.int A), (.long (own_L ((own_F A.toInt B.toInt e N) - (own_F A.toInt B.toInt e (N - bcl))))), (.int (Int32.ofNat (bcl + 1))), (.ref bs)])
            refine Rch.go (fun _ q => XS.i2l X128.here hx rfl (hb hby dla_114) rfl q) ?_
            show Rch p ev below _ T128 (mkF m 115 #[.val (.ref so), .val (.int (Int32.ofNat jj))] [(.long (A.toInt64)), (.long (own_L ((own_F A.toInt B.toInt e N) - (own_F A.toInt B.toInt e (N - bcl))))), (.int (Int32.ofNat (bcl + 1))), (.ref bs)])
            refine Rch.go (fun _ q => XS.ladd X128.here hx rfl (hb hby dla_115) rfl q) ?_
            show Rch p ev below _ T128 (mkF m 116 #[.val (.ref so), .val (.int (Int32.ofNat jj))] [(.long ((own_L ((own_F A.toInt B.toInt e N) - (own_F A.toInt B.toInt e (N - bcl)))) + (A.toInt64))), (.int (Int32.ofNat (bcl + 1))), (.ref bs)])
            have hstep : (own_F A.toInt B.toInt e (N - bcl)) = (own_F A.toInt B.toInt e (N - (bcl + 1))) + A.toInt := by
              have q : N - bcl = (N - (bcl + 1)) + 1 := by omega
              rw [q, own_F, if_pos (by omega)]
            rw [show (own_L ((own_F A.toInt B.toInt e N) - (own_F A.toInt B.toInt e (N - bcl))) + (A.toInt64)) = (own_L ((own_F A.toInt B.toInt e N) - (own_F A.toInt B.toInt e (N - (bcl + 1))))) from (by rw [own_L_i2l, own_L_add]; congr 1; omega)]
            show Rch p ev below _ T128 (mkF m 116 #[.val (.ref so), .val (.int (Int32.ofNat jj))] [(.long (own_L ((own_F A.toInt B.toInt e N) - (own_F A.toInt B.toInt e (N - (bcl + 1)))))), (.int (Int32.ofNat (bcl + 1))), (.ref bs)])
            obtain ⟨T129, h129, X129, e129, W129, V129, st129⟩ := sdJ X128 hx hZ e128 WW122.2.2.2.2.2.1 (j := (Int32.ofNat (bcl + 1))) (own_in_N (by omega) (by omega)) (bcl + 1) (own_nat_N (by omega)) (by rw [hc3]; omega) (g := (mkF m 116 #[.val (.ref so), .val (.int (Int32.ofNat jj))] [(.long (own_L ((own_F A.toInt B.toInt e N) - (own_F A.toInt B.toInt e (N - (bcl + 1)))))), (.int (Int32.ofNat (bcl + 1))), (.ref bs)])) rfl rfl (hb hby dla_116)
            have N129 := Fr.snoc X129 N122 WW122.2.2.2.2.2.2.1.2.2.2.2.1
            have WW129 : own_W Z h129 n0 so rs rt fs bs kr kt kf kb rl tl fl (bll.set (bcl + 1) (.long (own_L ((own_F A.toInt B.toInt e N) - (own_F A.toInt B.toInt e (N - (bcl + 1))))))) zl [(.ref rs), (.ref rt), (.int rc), (.int (Int32.ofNat N)), (.long sm), (.ref fs), (.int (Int32.ofNat fc)), (.int fr), (.ref bs), (.int (Int32.ofNat bcl)), (.int (0 : Int32)), (.int los), (.int lo), (.long gb), (.long ga)] := own_W_bs WW122 W129 V129
            refine Rch.go st129 ?_
            show Rch p ev below _ T129 (mkF m 117 #[.val (.ref so), .val (.int (Int32.ofNat jj))] [])
            refine Rch.go (fun _ q => XS.aloadN X129.here hx rfl (hb hby dla_117) rfl rfl q) ?_
            show Rch p ev below _ T129 (mkF m 118 #[.val (.ref so), .val (.int (Int32.ofNat jj))] [(.ref so)])
            refine Rch.go (fun _ q => XS.dup X129.here hx rfl (hb hby dla_118) rfl rfl q) ?_
            show Rch p ev below _ T129 (mkF m 119 #[.val (.ref so), .val (.int (Int32.ofNat jj))] [(.ref so), (.ref so)])
            obtain ⟨T130, X130, e130, st130⟩ := getF X129 hx hZ hown (host := "") (Or.inl (hw _ (List.mem_of_getElem? (i := 37) rfl))) Via.refl e129 (WW129.2.1 9 _ _ _ rfl rfl) (g := (mkF m 119 #[.val (.ref so), .val (.int (Int32.ofNat jj))] [(.ref so), (.ref so)])) rfl rfl (hb hby dla_119)
            refine Rch.go st130 ?_
            show Rch p ev below _ T130 (mkF m 122 #[.val (.ref so), .val (.int (Int32.ofNat jj))] [(.int (Int32.ofNat bcl)), (.ref so)])
            refine Rch.go (fun _ q => XS.iconst X130.here hx rfl (hb hby dla_122) q) ?_
            show Rch p ev below _ T130 (mkF m 123 #[.val (.ref so), .val (.int (Int32.ofNat jj))] [(.int (1 : Int32)), (.int (Int32.ofNat bcl)), (.ref so)])
            refine Rch.go (fun _ q => XS.iadd X130.here hx rfl (hb hby dla_123) rfl q) ?_
            show Rch p ev below _ T130 (mkF m 124 #[.val (.ref so), .val (.int (Int32.ofNat jj))] [(.int ((Int32.ofNat bcl) + (1 : Int32))), (.ref so)])
            rw [show (Int32.ofNat bcl + (1 : Int32)) = (Int32.ofNat (bcl + 1)) from (own_add1_N (by omega))]
            show Rch p ev below _ T130 (mkF m 124 #[.val (.ref so), .val (.int (Int32.ofNat jj))] [(.int (Int32.ofNat (bcl + 1))), (.ref so)])
            obtain ⟨T131, h131, X131, e131, W131, st131⟩ := putF X130 hx hZ hown (host := "") (Or.inl (hw _ (List.mem_of_getElem? (i := 37) rfl))) Via.refl e130 (WW129.2.1 9 _ _ _ rfl rfl) WW129.1 (Or.inl (hw _ (List.mem_of_getElem? (i := 38) rfl))) (hw _ (List.mem_of_getElem? (i := 8) rfl)) (ty := .int) (by decide) rfl rfl (g := (mkF m 124 #[.val (.ref so), .val (.int (Int32.ofNat jj))] [(.int (Int32.ofNat (bcl + 1))), (.ref so)])) rfl rfl (hb hby dla_124)
            have N131 := Fr.snoc X131 N129 WW129.2.2.2.2.2.2.1.1
            have Z131 : n0 ≤ h131.size := by rw [W131.size]; exact WW129.2.2.2.2.2.2.1.2.2.2.2.2
            refine Rch.go st131 ?_
            show Rch p ev below _ T131 (mkF m 127 #[.val (.ref so), .val (.int (Int32.ofNat jj))] [])
            have WW131 : own_W Z h131 n0 so rs rt fs bs kr kt kf kb rl tl fl (bll.set (bcl + 1) (.long (own_L ((own_F A.toInt B.toInt e N) - (own_F A.toInt B.toInt e (N - (bcl + 1))))))) zl [(.ref rs), (.ref rt), (.int rc), (.int (Int32.ofNat N)), (.long sm), (.ref fs), (.int (Int32.ofNat fc)), (.int fr), (.ref bs), (.int (Int32.ofNat (bcl + 1))), (.int (0 : Int32)), (.int los), (.int lo), (.long gb), (.long ga)] := own_W_put hw WW129 9 rfl W131
            refine Rch.go (fun _ q => XS.goto X131.here hx rfl (pc0 := 127) (pc' := 47) rfl (hb hby dla_127) (by decide) (by decide) q) ?_
            show Rch p ev below _ T131 (mkF m 47 #[.val (.ref so), .val (.int (Int32.ofNat jj))] [])
            exact ih _ _ _ (bcl + 1) (0 : Int32) _ X131 e131 N131 WW131 ⟨by omega, Or.inr ⟨hr, Or.inr ⟨rfl, by omega⟩⟩, by rw [List.length_set]; exact hc3, fun i hi => by
              rw [own_getD_set _ _ _ _ _ (by rw [hc3]; omega)]
              by_cases q : i = bcl + 1
              · rw [if_pos q, q]
              · rw [if_neg q]; exact hvals i (by omega)⟩ (by omega)
          · skip
            refine Rch.go (fun _ q => XS.icmpYes X120.here hx rfl (pc0 := 73) (pc' := 86) rfl (hb hby dla_73) rfl (feq ((mt (own_eq_N (a := N - bcl) (b := e) (by omega) (by omega)).mp hc73))).2 (by decide) (by decide) q) ?_
            show Rch p ev below _ T120 (mkF m 86 #[.val (.ref so), .val (.int (Int32.ofNat jj))] [])
            refine Rch.go (fun _ q => XS.aloadN X120.here hx rfl (hb hby dla_86) rfl rfl q) ?_
            show Rch p ev below _ T120 (mkF m 87 #[.val (.ref so), .val (.int (Int32.ofNat jj))] [(.ref so)])
            obtain ⟨T132, X132, e132, st132⟩ := getF X120 hx hZ hown (host := "") (Or.inl (hw _ (List.mem_of_getElem? (i := 19) rfl))) Via.refl e120 (Wl.2.1 8 _ _ _ rfl rfl) (g := (mkF m 87 #[.val (.ref so), .val (.int (Int32.ofNat jj))] [(.ref so)])) rfl rfl (hb hby dla_87)
            refine Rch.go st132 ?_
            show Rch p ev below _ T132 (mkF m 90 #[.val (.ref so), .val (.int (Int32.ofNat jj))] [(.ref bs)])
            refine Rch.go (fun _ q => XS.aloadN X132.here hx rfl (hb hby dla_90) rfl rfl q) ?_
            show Rch p ev below _ T132 (mkF m 91 #[.val (.ref so), .val (.int (Int32.ofNat jj))] [(.ref so), (.ref bs)])
            obtain ⟨T133, X133, e133, st133⟩ := getF X132 hx hZ hown (host := "") (Or.inl (hw _ (List.mem_of_getElem? (i := 37) rfl))) Via.refl e132 (Wl.2.1 9 _ _ _ rfl rfl) (g := (mkF m 91 #[.val (.ref so), .val (.int (Int32.ofNat jj))] [(.ref so), (.ref bs)])) rfl rfl (hb hby dla_91)
            refine Rch.go st133 ?_
            show Rch p ev below _ T133 (mkF m 94 #[.val (.ref so), .val (.int (Int32.ofNat jj))] [(.int (Int32.ofNat bcl)), (.ref bs)])
            refine Rch.go (fun _ q => XS.iconst X133.here hx rfl (hb hby dla_94) q) ?_
            show Rch p ev below _ T133 (mkF m 95 #[.val (.ref so), .val (.int (Int32.ofNat jj))] [(.int (1 : Int32)), (.int (Int32.ofNat bcl)), (.ref bs)])
            refine Rch.go (fun _ q => XS.iadd X133.here hx rfl (hb hby dla_95) rfl q) ?_
            show Rch p ev below _ T133 (mkF m 96 #[.val (.ref so), .val (.int (Int32.ofNat jj))] [(.int ((Int32.ofNat bcl) + (1 : Int32))), (.ref bs)])
            rw [show (Int32.ofNat bcl + (1 : Int32)) = (Int32.ofNat (bcl + 1)) from (own_add1_N (by omega))]
            show Rch p ev below _ T133 (mkF m 96 #[.val (.ref so), .val (.int (Int32.ofNat jj))] [(.int (Int32.ofNat (bcl + 1))), (.ref bs)])
            refine Rch.go (fun _ q => XS.aloadN X133.here hx rfl (hb hby dla_96) rfl rfl q) ?_
            show Rch p ev below _ T133 (mkF m 97 #[.val (.ref so), .val (.int (Int32.ofNat jj))] [(.ref so), (.int (Int32.ofNat (bcl + 1))), (.ref bs)])
            obtain ⟨T134, X134, e134, st134⟩ := getF X133 hx hZ hown (host := "") (Or.inl (hw _ (List.mem_of_getElem? (i := 19) rfl))) Via.refl e133 (Wl.2.1 8 _ _ _ rfl rfl) (g := (mkF m 97 #[.val (.ref so), .val (.int (Int32.ofNat jj))] [(.ref so), (.int (Int32.ofNat (bcl + 1))), (.ref bs)])) rfl rfl (hb hby dla_97)
            refine Rch.go st134 ?_
            show Rch p ev below _ T134 (mkF m 100 #[.val (.ref so), .val (.int (Int32.ofNat jj))] [(.ref bs), (.int (Int32.ofNat (bcl + 1))), (.ref bs)])
            refine Rch.go (fun _ q => XS.aloadN X134.here hx rfl (hb hby dla_100) rfl rfl q) ?_
            show Rch p ev below _ T134 (mkF m 101 #[.val (.ref so), .val (.int (Int32.ofNat jj))] [(.ref so), (.ref bs), (.int (Int32.ofNat (bcl + 1))), (.ref bs)])
            obtain ⟨T135, X135, e135, st135⟩ := getF X134 hx hZ hown (host := "") (Or.inl (hw _ (List.mem_of_getElem? (i := 37) rfl))) Via.refl e134 (Wl.2.1 9 _ _ _ rfl rfl) (g := (mkF m 101 #[.val (.ref so), .val (.int (Int32.ofNat jj))] [(.ref so), (.ref bs), (.int (Int32.ofNat (bcl + 1))), (.ref bs)])) rfl rfl (hb hby dla_101)
            refine Rch.go st135 ?_
            show Rch p ev below _ T135 (mkF m 104 #[.val (.ref so), .val (.int (Int32.ofNat jj))] [(.int (Int32.ofNat bcl)), (.ref bs), (.int (Int32.ofNat (bcl + 1))), (.ref bs)])
            refine Rch.go (fun _ q => ldJ X135 hx hZ e135 Wl.2.2.2.2.2.1 (j := (Int32.ofNat bcl)) (v := (.long (own_L ((own_F A.toInt B.toInt e N) - (own_F A.toInt B.toInt e (N - bcl)))))) (own_in_N (by omega) (by omega)) (by rw [own_nat_N (by omega)]; exact hvals bcl (Nat.le_refl _)) (g := (mkF m 104 #[.val (.ref so), .val (.int (Int32.ofNat jj))] [(.int (Int32.ofNat bcl)), (.ref bs), (.int (Int32.ofNat (bcl + 1))), (.ref bs)])) rfl rfl (hb hby dla_104) _ q) ?_
            show Rch p ev below _ T135 (mkF m 105 #[.val (.ref so), .val (.int (Int32.ofNat jj))] [(.long (own_L ((own_F A.toInt B.toInt e N) - (own_F A.toInt B.toInt e (N - bcl))))), (.int (Int32.ofNat (bcl + 1))), (.ref bs)])
            refine Rch.go (fun _ q => XS.aloadN X135.here hx rfl (hb hby dla_105) rfl rfl q) ?_
            show Rch p ev below _ T135 (mkF m 106 #[.val (.ref so), .val (.int (Int32.ofNat jj))] [(.ref so), (.long (own_L ((own_F A.toInt B.toInt e N) - (own_F A.toInt B.toInt e (N - bcl))))), (.int (Int32.ofNat (bcl + 1))), (.ref bs)])
            obtain ⟨T136, X136, e136, st136⟩ := getF X135 hx hZ hown (host := "") (Or.inl (hw _ (List.mem_of_getElem? (i := 22) rfl))) Via.refl e135 (Wl.2.1 0 _ _ _ rfl rfl) (g := (mkF m 106 #[.val (.ref so), .val (.int (Int32.ofNat jj))] [(.ref so), (.long (own_L ((own_F A.toInt B.toInt e N) - (own_F A.toInt B.toInt e (N - bcl))))), (.int (Int32.ofNat (bcl + 1))), (.ref bs)])) rfl rfl (hb hby dla_106)
            refine Rch.go st136 ?_
            show Rch p ev below _ T136 (mkF m 109 #[.val (.ref so), .val (.int (Int32.ofNat jj))] [(.ref rs), (.long (own_L ((own_F A.toInt B.toInt e N) - (own_F A.toInt B.toInt e (N - bcl))))), (.int (Int32.ofNat (bcl + 1))), (.ref bs)])
            refine Rch.go (fun _ q => XS.aloadN X136.here hx rfl (hb hby dla_109) rfl rfl q) ?_
            show Rch p ev below _ T136 (mkF m 110 #[.val (.ref so), .val (.int (Int32.ofNat jj))] [(.ref so), (.ref rs), (.long (own_L ((own_F A.toInt B.toInt e N) - (own_F A.toInt B.toInt e (N - bcl))))), (.int (Int32.ofNat (bcl + 1))), (.ref bs)])
            obtain ⟨T137, X137, e137, st137⟩ := getF X136 hx hZ hown (host := "") (Or.inl (hw _ (List.mem_of_getElem? (i := 39) rfl))) Via.refl e136 (Wl.2.1 10 _ _ _ rfl rfl) (g := (mkF m 110 #[.val (.ref so), .val (.int (Int32.ofNat jj))] [(.ref so), (.ref rs), (.long (own_L ((own_F A.toInt B.toInt e N) - (own_F A.toInt B.toInt e (N - bcl))))), (.int (Int32.ofNat (bcl + 1))), (.ref bs)])) rfl rfl (hb hby dla_110)
            refine Rch.go st137 ?_
            show Rch p ev below _ T137 (mkF m 113 #[.val (.ref so), .val (.int (Int32.ofNat jj))] [(.int (1 : Int32)), (.ref rs), (.long (own_L ((own_F A.toInt B.toInt e N) - (own_F A.toInt B.toInt e (N - bcl))))), (.int (Int32.ofNat (bcl + 1))), (.ref bs)])
            refine Rch.go (fun _ q => ldI X137 hx hZ e137 Wl.2.2.1 (j := (1 : Int32)) (v := (.int B)) (by decide) (r1 hr) (g := (mkF m 113 #[.val (.ref so), .val (.int (Int32.ofNat jj))] [(.int (1 : Int32)), (.ref rs), (.long (own_L ((own_F A.toInt B.toInt e N) - (own_F A.toInt B.toInt e (N - bcl))))), (.int (Int32.ofNat (bcl + 1))), (.ref bs)])) rfl rfl (hb hby dla_113) _ q) ?_
            show Rch p ev below _ T137 (mkF m 114 #[.val (.ref so), .val (.int (Int32.ofNat jj))] [(.int B), (.long (own_L ((own_F A.toInt B.toInt e N) - (own_F A.toInt B.toInt e (N - bcl))))), (.int (Int32.ofNat (bcl + 1))), (.ref bs)])
            refine Rch.go (fun _ q => XS.i2l X137.here hx rfl (hb hby dla_114) rfl q) ?_
            show Rch p ev below _ T137 (mkF m 115 #[.val (.ref so), .val (.int (Int32.ofNat jj))] [(.long (B.toInt64)), (.long (own_L ((own_F A.toInt B.toInt e N) - (own_F A.toInt B.toInt e (N - bcl))))), (.int (Int32.ofNat (bcl + 1))), (.ref bs)])
            refine Rch.go (fun _ q => XS.ladd X137.here hx rfl (hb hby dla_115) rfl q) ?_
            show Rch p ev below _ T137 (mkF m 116 #[.val (.ref so), .val (.int (Int32.ofNat jj))] [(.long ((own_L ((own_F A.toInt B.toInt e N) - (own_F A.toInt B.toInt e (N - bcl)))) + (B.toInt64))), (.int (Int32.ofNat (bcl + 1))), (.ref bs)])
            have hstep : (own_F A.toInt B.toInt e (N - bcl)) = (own_F A.toInt B.toInt e (N - (bcl + 1))) + B.toInt := by
              have q : N - bcl = (N - (bcl + 1)) + 1 := by omega
              rw [q, own_F, if_neg (by omega)]
            rw [show (own_L ((own_F A.toInt B.toInt e N) - (own_F A.toInt B.toInt e (N - bcl))) + (B.toInt64)) = (own_L ((own_F A.toInt B.toInt e N) - (own_F A.toInt B.toInt e (N - (bcl + 1))))) from (by rw [own_L_i2l, own_L_add]; congr 1; omega)]
            show Rch p ev below _ T137 (mkF m 116 #[.val (.ref so), .val (.int (Int32.ofNat jj))] [(.long (own_L ((own_F A.toInt B.toInt e N) - (own_F A.toInt B.toInt e (N - (bcl + 1)))))), (.int (Int32.ofNat (bcl + 1))), (.ref bs)])
            obtain ⟨T138, h138, X138, e138, W138, V138, st138⟩ := sdJ X137 hx hZ e137 Wl.2.2.2.2.2.1 (j := (Int32.ofNat (bcl + 1))) (own_in_N (by omega) (by omega)) (bcl + 1) (own_nat_N (by omega)) (by rw [hc3]; omega) (g := (mkF m 116 #[.val (.ref so), .val (.int (Int32.ofNat jj))] [(.long (own_L ((own_F A.toInt B.toInt e N) - (own_F A.toInt B.toInt e (N - (bcl + 1)))))), (.int (Int32.ofNat (bcl + 1))), (.ref bs)])) rfl rfl (hb hby dla_116)
            have N138 := Fr.snoc X138 Nl Wl.2.2.2.2.2.2.1.2.2.2.2.1
            have WW138 : own_W Z h138 n0 so rs rt fs bs kr kt kf kb rl tl fl (bll.set (bcl + 1) (.long (own_L ((own_F A.toInt B.toInt e N) - (own_F A.toInt B.toInt e (N - (bcl + 1))))))) zl [(.ref rs), (.ref rt), (.int rc), (.int (Int32.ofNat N)), (.long sm), (.ref fs), (.int (Int32.ofNat fc)), (.int fr), (.ref bs), (.int (Int32.ofNat bcl)), (.int (1 : Int32)), (.int los), (.int lo), (.long gb), (.long ga)] := own_W_bs Wl W138 V138
            refine Rch.go st138 ?_
            show Rch p ev below _ T138 (mkF m 117 #[.val (.ref so), .val (.int (Int32.ofNat jj))] [])
            refine Rch.go (fun _ q => XS.aloadN X138.here hx rfl (hb hby dla_117) rfl rfl q) ?_
            show Rch p ev below _ T138 (mkF m 118 #[.val (.ref so), .val (.int (Int32.ofNat jj))] [(.ref so)])
            refine Rch.go (fun _ q => XS.dup X138.here hx rfl (hb hby dla_118) rfl rfl q) ?_
            show Rch p ev below _ T138 (mkF m 119 #[.val (.ref so), .val (.int (Int32.ofNat jj))] [(.ref so), (.ref so)])
            obtain ⟨T139, X139, e139, st139⟩ := getF X138 hx hZ hown (host := "") (Or.inl (hw _ (List.mem_of_getElem? (i := 37) rfl))) Via.refl e138 (WW138.2.1 9 _ _ _ rfl rfl) (g := (mkF m 119 #[.val (.ref so), .val (.int (Int32.ofNat jj))] [(.ref so), (.ref so)])) rfl rfl (hb hby dla_119)
            refine Rch.go st139 ?_
            show Rch p ev below _ T139 (mkF m 122 #[.val (.ref so), .val (.int (Int32.ofNat jj))] [(.int (Int32.ofNat bcl)), (.ref so)])
            refine Rch.go (fun _ q => XS.iconst X139.here hx rfl (hb hby dla_122) q) ?_
            show Rch p ev below _ T139 (mkF m 123 #[.val (.ref so), .val (.int (Int32.ofNat jj))] [(.int (1 : Int32)), (.int (Int32.ofNat bcl)), (.ref so)])
            refine Rch.go (fun _ q => XS.iadd X139.here hx rfl (hb hby dla_123) rfl q) ?_
            show Rch p ev below _ T139 (mkF m 124 #[.val (.ref so), .val (.int (Int32.ofNat jj))] [(.int ((Int32.ofNat bcl) + (1 : Int32))), (.ref so)])
            rw [show (Int32.ofNat bcl + (1 : Int32)) = (Int32.ofNat (bcl + 1)) from (own_add1_N (by omega))]
            show Rch p ev below _ T139 (mkF m 124 #[.val (.ref so), .val (.int (Int32.ofNat jj))] [(.int (Int32.ofNat (bcl + 1))), (.ref so)])
            obtain ⟨T140, h140, X140, e140, W140, st140⟩ := putF X139 hx hZ hown (host := "") (Or.inl (hw _ (List.mem_of_getElem? (i := 37) rfl))) Via.refl e139 (WW138.2.1 9 _ _ _ rfl rfl) WW138.1 (Or.inl (hw _ (List.mem_of_getElem? (i := 38) rfl))) (hw _ (List.mem_of_getElem? (i := 8) rfl)) (ty := .int) (by decide) rfl rfl (g := (mkF m 124 #[.val (.ref so), .val (.int (Int32.ofNat jj))] [(.int (Int32.ofNat (bcl + 1))), (.ref so)])) rfl rfl (hb hby dla_124)
            have N140 := Fr.snoc X140 N138 WW138.2.2.2.2.2.2.1.1
            have Z140 : n0 ≤ h140.size := by rw [W140.size]; exact WW138.2.2.2.2.2.2.1.2.2.2.2.2
            refine Rch.go st140 ?_
            show Rch p ev below _ T140 (mkF m 127 #[.val (.ref so), .val (.int (Int32.ofNat jj))] [])
            have WW140 : own_W Z h140 n0 so rs rt fs bs kr kt kf kb rl tl fl (bll.set (bcl + 1) (.long (own_L ((own_F A.toInt B.toInt e N) - (own_F A.toInt B.toInt e (N - (bcl + 1))))))) zl [(.ref rs), (.ref rt), (.int rc), (.int (Int32.ofNat N)), (.long sm), (.ref fs), (.int (Int32.ofNat fc)), (.int fr), (.ref bs), (.int (Int32.ofNat (bcl + 1))), (.int (1 : Int32)), (.int los), (.int lo), (.long gb), (.long ga)] := own_W_put hw WW138 9 rfl W140
            refine Rch.go (fun _ q => XS.goto X140.here hx rfl (pc0 := 127) (pc' := 47) rfl (hb hby dla_127) (by decide) (by decide) q) ?_
            show Rch p ev below _ T140 (mkF m 47 #[.val (.ref so), .val (.int (Int32.ofNat jj))] [])
            exact ih _ _ _ (bcl + 1) (1 : Int32) _ X140 e140 N140 WW140 ⟨by omega, Or.inr ⟨hr, Or.inl ⟨rfl, by omega⟩⟩, by rw [List.length_set]; exact hc3, fun i hi => by
              rw [own_getD_set _ _ _ _ _ (by rw [hc3]; omega)]
              by_cases q : i = bcl + 1
              · rw [if_pos q, q]
              · rw [if_neg q]; exact hvals i (by omega)⟩ (by omega)
        · subst hbr
          have hen : e < N := by rcases hrc with ⟨q, q2⟩ | ⟨q, q2⟩; (rw [hr] at q; exact absurd q (by decide)); exact q2
          show Rch p ev below _ T103 (mkF m 55 #[.val (.ref so), .val (.int (Int32.ofNat jj))] [])
          refine Rch.go (fun _ q => XS.aloadN X103.here hx rfl (hb hby dla_55) rfl rfl q) ?_
          show Rch p ev below _ T103 (mkF m 56 #[.val (.ref so), .val (.int (Int32.ofNat jj))] [(.ref so)])
          obtain ⟨T141, X141, e141, st141⟩ := getF X103 hx hZ hown (host := "") (Or.inl (hw _ (List.mem_of_getElem? (i := 33) rfl))) Via.refl e103 (Wl.2.1 3 _ _ _ rfl rfl) (g := (mkF m 56 #[.val (.ref so), .val (.int (Int32.ofNat jj))] [(.ref so)])) rfl rfl (hb hby dla_56)
          refine Rch.go st141 ?_
          show Rch p ev below _ T141 (mkF m 59 #[.val (.ref so), .val (.int (Int32.ofNat jj))] [(.int (Int32.ofNat N))])
          refine Rch.go (fun _ q => XS.aloadN X141.here hx rfl (hb hby dla_59) rfl rfl q) ?_
          show Rch p ev below _ T141 (mkF m 60 #[.val (.ref so), .val (.int (Int32.ofNat jj))] [(.ref so), (.int (Int32.ofNat N))])
          obtain ⟨T142, X142, e142, st142⟩ := getF X141 hx hZ hown (host := "") (Or.inl (hw _ (List.mem_of_getElem? (i := 37) rfl))) Via.refl e141 (Wl.2.1 9 _ _ _ rfl rfl) (g := (mkF m 60 #[.val (.ref so), .val (.int (Int32.ofNat jj))] [(.ref so), (.int (Int32.ofNat N))])) rfl rfl (hb hby dla_60)
          refine Rch.go st142 ?_
          show Rch p ev below _ T142 (mkF m 63 #[.val (.ref so), .val (.int (Int32.ofNat jj))] [(.int (Int32.ofNat bcl)), (.int (Int32.ofNat N))])
          refine Rch.go (fun _ q => XS.isub X142.here hx rfl (hb hby dla_63) rfl q) ?_
          show Rch p ev below _ T142 (mkF m 64 #[.val (.ref so), .val (.int (Int32.ofNat jj))] [(.int ((Int32.ofNat N) - (Int32.ofNat bcl)))])
          rw [show (Int32.ofNat N - Int32.ofNat bcl) = (Int32.ofNat (N - bcl)) from (own_sub_N (by omega) (by omega))]
          show Rch p ev below _ T142 (mkF m 64 #[.val (.ref so), .val (.int (Int32.ofNat jj))] [(.int (Int32.ofNat (N - bcl)))])
          refine Rch.go (fun _ q => XS.aloadN X142.here hx rfl (hb hby dla_64) rfl rfl q) ?_
          show Rch p ev below _ T142 (mkF m 65 #[.val (.ref so), .val (.int (Int32.ofNat jj))] [(.ref so), (.int (Int32.ofNat (N - bcl)))])
          obtain ⟨T143, X143, e143, st143⟩ := getF X142 hx hZ hown (host := "") (Or.inl (hw _ (List.mem_of_getElem? (i := 24) rfl))) Via.refl e142 (Wl.2.1 1 _ _ _ rfl rfl) (g := (mkF m 65 #[.val (.ref so), .val (.int (Int32.ofNat jj))] [(.ref so), (.int (Int32.ofNat (N - bcl)))])) rfl rfl (hb hby dla_65)
          refine Rch.go st143 ?_
          show Rch p ev below _ T143 (mkF m 68 #[.val (.ref so), .val (.int (Int32.ofNat jj))] [(.ref rt), (.int (Int32.ofNat (N - bcl)))])
          refine Rch.go (fun _ q => XS.aloadN X143.here hx rfl (hb hby dla_68) rfl rfl q) ?_
          show Rch p ev below _ T143 (mkF m 69 #[.val (.ref so), .val (.int (Int32.ofNat jj))] [(.ref so), (.ref rt), (.int (Int32.ofNat (N - bcl)))])
          obtain ⟨T144, X144, e144, st144⟩ := getF X143 hx hZ hown (host := "") (Or.inl (hw _ (List.mem_of_getElem? (i := 39) rfl))) Via.refl e143 (Wl.2.1 10 _ _ _ rfl rfl) (g := (mkF m 69 #[.val (.ref so), .val (.int (Int32.ofNat jj))] [(.ref so), (.ref rt), (.int (Int32.ofNat (N - bcl)))])) rfl rfl (hb hby dla_69)
          refine Rch.go st144 ?_
          show Rch p ev below _ T144 (mkF m 72 #[.val (.ref so), .val (.int (Int32.ofNat jj))] [(.int (0 : Int32)), (.ref rt), (.int (Int32.ofNat (N - bcl)))])
          refine Rch.go (fun _ q => ldI X144 hx hZ e144 Wl.2.2.2.1 (j := (0 : Int32)) (v := (.int (0 : Int32))) (by decide) t0 (g := (mkF m 72 #[.val (.ref so), .val (.int (Int32.ofNat jj))] [(.int (0 : Int32)), (.ref rt), (.int (Int32.ofNat (N - bcl)))])) rfl rfl (hb hby dla_72) _ q) ?_
          show Rch p ev below _ T144 (mkF m 73 #[.val (.ref so), .val (.int (Int32.ofNat jj))] [(.int (0 : Int32)), (.int (Int32.ofNat (N - bcl)))])
          refine Rch.go (fun _ q => XS.icmpYes X144.here hx rfl (pc0 := 73) (pc' := 86) rfl (hb hby dla_73) rfl (feq (mt (own_eq_N (a := N - bcl) (b := 0) (by omega) (by omega)).mp (by omega))).2 (by decide) (by decide) q) ?_
          show Rch p ev below _ T144 (mkF m 86 #[.val (.ref so), .val (.int (Int32.ofNat jj))] [])
          refine Rch.go (fun _ q => XS.aloadN X144.here hx rfl (hb hby dla_86) rfl rfl q) ?_
          show Rch p ev below _ T144 (mkF m 87 #[.val (.ref so), .val (.int (Int32.ofNat jj))] [(.ref so)])
          obtain ⟨T145, X145, e145, st145⟩ := getF X144 hx hZ hown (host := "") (Or.inl (hw _ (List.mem_of_getElem? (i := 19) rfl))) Via.refl e144 (Wl.2.1 8 _ _ _ rfl rfl) (g := (mkF m 87 #[.val (.ref so), .val (.int (Int32.ofNat jj))] [(.ref so)])) rfl rfl (hb hby dla_87)
          refine Rch.go st145 ?_
          show Rch p ev below _ T145 (mkF m 90 #[.val (.ref so), .val (.int (Int32.ofNat jj))] [(.ref bs)])
          refine Rch.go (fun _ q => XS.aloadN X145.here hx rfl (hb hby dla_90) rfl rfl q) ?_
          show Rch p ev below _ T145 (mkF m 91 #[.val (.ref so), .val (.int (Int32.ofNat jj))] [(.ref so), (.ref bs)])
          obtain ⟨T146, X146, e146, st146⟩ := getF X145 hx hZ hown (host := "") (Or.inl (hw _ (List.mem_of_getElem? (i := 37) rfl))) Via.refl e145 (Wl.2.1 9 _ _ _ rfl rfl) (g := (mkF m 91 #[.val (.ref so), .val (.int (Int32.ofNat jj))] [(.ref so), (.ref bs)])) rfl rfl (hb hby dla_91)
          refine Rch.go st146 ?_
          show Rch p ev below _ T146 (mkF m 94 #[.val (.ref so), .val (.int (Int32.ofNat jj))] [(.int (Int32.ofNat bcl)), (.ref bs)])
          refine Rch.go (fun _ q => XS.iconst X146.here hx rfl (hb hby dla_94) q) ?_
          show Rch p ev below _ T146 (mkF m 95 #[.val (.ref so), .val (.int (Int32.ofNat jj))] [(.int (1 : Int32)), (.int (Int32.ofNat bcl)), (.ref bs)])
          refine Rch.go (fun _ q => XS.iadd X146.here hx rfl (hb hby dla_95) rfl q) ?_
          show Rch p ev below _ T146 (mkF m 96 #[.val (.ref so), .val (.int (Int32.ofNat jj))] [(.int ((Int32.ofNat bcl) + (1 : Int32))), (.ref bs)])
          rw [show (Int32.ofNat bcl + (1 : Int32)) = (Int32.ofNat (bcl + 1)) from (own_add1_N (by omega))]
          show Rch p ev below _ T146 (mkF m 96 #[.val (.ref so), .val (.int (Int32.ofNat jj))] [(.int (Int32.ofNat (bcl + 1))), (.ref bs)])
          refine Rch.go (fun _ q => XS.aloadN X146.here hx rfl (hb hby dla_96) rfl rfl q) ?_
          show Rch p ev below _ T146 (mkF m 97 #[.val (.ref so), .val (.int (Int32.ofNat jj))] [(.ref so), (.int (Int32.ofNat (bcl + 1))), (.ref bs)])
          obtain ⟨T147, X147, e147, st147⟩ := getF X146 hx hZ hown (host := "") (Or.inl (hw _ (List.mem_of_getElem? (i := 19) rfl))) Via.refl e146 (Wl.2.1 8 _ _ _ rfl rfl) (g := (mkF m 97 #[.val (.ref so), .val (.int (Int32.ofNat jj))] [(.ref so), (.int (Int32.ofNat (bcl + 1))), (.ref bs)])) rfl rfl (hb hby dla_97)
          refine Rch.go st147 ?_
          show Rch p ev below _ T147 (mkF m 100 #[.val (.ref so), .val (.int (Int32.ofNat jj))] [(.ref bs), (.int (Int32.ofNat (bcl + 1))), (.ref bs)])
          refine Rch.go (fun _ q => XS.aloadN X147.here hx rfl (hb hby dla_100) rfl rfl q) ?_
          show Rch p ev below _ T147 (mkF m 101 #[.val (.ref so), .val (.int (Int32.ofNat jj))] [(.ref so), (.ref bs), (.int (Int32.ofNat (bcl + 1))), (.ref bs)])
          obtain ⟨T148, X148, e148, st148⟩ := getF X147 hx hZ hown (host := "") (Or.inl (hw _ (List.mem_of_getElem? (i := 37) rfl))) Via.refl e147 (Wl.2.1 9 _ _ _ rfl rfl) (g := (mkF m 101 #[.val (.ref so), .val (.int (Int32.ofNat jj))] [(.ref so), (.ref bs), (.int (Int32.ofNat (bcl + 1))), (.ref bs)])) rfl rfl (hb hby dla_101)
          refine Rch.go st148 ?_
          show Rch p ev below _ T148 (mkF m 104 #[.val (.ref so), .val (.int (Int32.ofNat jj))] [(.int (Int32.ofNat bcl)), (.ref bs), (.int (Int32.ofNat (bcl + 1))), (.ref bs)])
          refine Rch.go (fun _ q => ldJ X148 hx hZ e148 Wl.2.2.2.2.2.1 (j := (Int32.ofNat bcl)) (v := (.long (own_L ((own_F A.toInt B.toInt e N) - (own_F A.toInt B.toInt e (N - bcl)))))) (own_in_N (by omega) (by omega)) (by rw [own_nat_N (by omega)]; exact hvals bcl (Nat.le_refl _)) (g := (mkF m 104 #[.val (.ref so), .val (.int (Int32.ofNat jj))] [(.int (Int32.ofNat bcl)), (.ref bs), (.int (Int32.ofNat (bcl + 1))), (.ref bs)])) rfl rfl (hb hby dla_104) _ q) ?_
          show Rch p ev below _ T148 (mkF m 105 #[.val (.ref so), .val (.int (Int32.ofNat jj))] [(.long (own_L ((own_F A.toInt B.toInt e N) - (own_F A.toInt B.toInt e (N - bcl))))), (.int (Int32.ofNat (bcl + 1))), (.ref bs)])
          refine Rch.go (fun _ q => XS.aloadN X148.here hx rfl (hb hby dla_105) rfl rfl q) ?_
          show Rch p ev below _ T148 (mkF m 106 #[.val (.ref so), .val (.int (Int32.ofNat jj))] [(.ref so), (.long (own_L ((own_F A.toInt B.toInt e N) - (own_F A.toInt B.toInt e (N - bcl))))), (.int (Int32.ofNat (bcl + 1))), (.ref bs)])
          obtain ⟨T149, X149, e149, st149⟩ := getF X148 hx hZ hown (host := "") (Or.inl (hw _ (List.mem_of_getElem? (i := 22) rfl))) Via.refl e148 (Wl.2.1 0 _ _ _ rfl rfl) (g := (mkF m 106 #[.val (.ref so), .val (.int (Int32.ofNat jj))] [(.ref so), (.long (own_L ((own_F A.toInt B.toInt e N) - (own_F A.toInt B.toInt e (N - bcl))))), (.int (Int32.ofNat (bcl + 1))), (.ref bs)])) rfl rfl (hb hby dla_106)
          refine Rch.go st149 ?_
          show Rch p ev below _ T149 (mkF m 109 #[.val (.ref so), .val (.int (Int32.ofNat jj))] [(.ref rs), (.long (own_L ((own_F A.toInt B.toInt e N) - (own_F A.toInt B.toInt e (N - bcl))))), (.int (Int32.ofNat (bcl + 1))), (.ref bs)])
          refine Rch.go (fun _ q => XS.aloadN X149.here hx rfl (hb hby dla_109) rfl rfl q) ?_
          show Rch p ev below _ T149 (mkF m 110 #[.val (.ref so), .val (.int (Int32.ofNat jj))] [(.ref so), (.ref rs), (.long (own_L ((own_F A.toInt B.toInt e N) - (own_F A.toInt B.toInt e (N - bcl))))), (.int (Int32.ofNat (bcl + 1))), (.ref bs)])
          obtain ⟨T150, X150, e150, st150⟩ := getF X149 hx hZ hown (host := "") (Or.inl (hw _ (List.mem_of_getElem? (i := 39) rfl))) Via.refl e149 (Wl.2.1 10 _ _ _ rfl rfl) (g := (mkF m 110 #[.val (.ref so), .val (.int (Int32.ofNat jj))] [(.ref so), (.ref rs), (.long (own_L ((own_F A.toInt B.toInt e N) - (own_F A.toInt B.toInt e (N - bcl))))), (.int (Int32.ofNat (bcl + 1))), (.ref bs)])) rfl rfl (hb hby dla_110)
          refine Rch.go st150 ?_
          show Rch p ev below _ T150 (mkF m 113 #[.val (.ref so), .val (.int (Int32.ofNat jj))] [(.int (0 : Int32)), (.ref rs), (.long (own_L ((own_F A.toInt B.toInt e N) - (own_F A.toInt B.toInt e (N - bcl))))), (.int (Int32.ofNat (bcl + 1))), (.ref bs)])
          refine Rch.go (fun _ q => ldI X150 hx hZ e150 Wl.2.2.1 (j := (0 : Int32)) (v := (.int A)) (by decide) r0 (g := (mkF m 113 #[.val (.ref so), .val (.int (Int32.ofNat jj))] [(.int (0 : Int32)), (.ref rs), (.long (own_L ((own_F A.toInt B.toInt e N) - (own_F A.toInt B.toInt e (N - bcl))))), (.int (Int32.ofNat (bcl + 1))), (.ref bs)])) rfl rfl (hb hby dla_113) _ q) ?_
          show Rch p ev below _ T150 (mkF m 114 #[.val (.ref so), .val (.int (Int32.ofNat jj))] [(.int A), (.long (own_L ((own_F A.toInt B.toInt e N) - (own_F A.toInt B.toInt e (N - bcl))))), (.int (Int32.ofNat (bcl + 1))), (.ref bs)])
          refine Rch.go (fun _ q => XS.i2l X150.here hx rfl (hb hby dla_114) rfl q) ?_
          show Rch p ev below _ T150 (mkF m 115 #[.val (.ref so), .val (.int (Int32.ofNat jj))] [(.long (A.toInt64)), (.long (own_L ((own_F A.toInt B.toInt e N) - (own_F A.toInt B.toInt e (N - bcl))))), (.int (Int32.ofNat (bcl + 1))), (.ref bs)])
          refine Rch.go (fun _ q => XS.ladd X150.here hx rfl (hb hby dla_115) rfl q) ?_
          show Rch p ev below _ T150 (mkF m 116 #[.val (.ref so), .val (.int (Int32.ofNat jj))] [(.long ((own_L ((own_F A.toInt B.toInt e N) - (own_F A.toInt B.toInt e (N - bcl)))) + (A.toInt64))), (.int (Int32.ofNat (bcl + 1))), (.ref bs)])
          have hstep : (own_F A.toInt B.toInt e (N - bcl)) = (own_F A.toInt B.toInt e (N - (bcl + 1))) + A.toInt := by
            have q : N - bcl = (N - (bcl + 1)) + 1 := by omega
            rw [q, own_F, if_pos (by omega)]
          rw [show (own_L ((own_F A.toInt B.toInt e N) - (own_F A.toInt B.toInt e (N - bcl))) + (A.toInt64)) = (own_L ((own_F A.toInt B.toInt e N) - (own_F A.toInt B.toInt e (N - (bcl + 1))))) from (by rw [own_L_i2l, own_L_add]; congr 1; omega)]
          show Rch p ev below _ T150 (mkF m 116 #[.val (.ref so), .val (.int (Int32.ofNat jj))] [(.long (own_L ((own_F A.toInt B.toInt e N) - (own_F A.toInt B.toInt e (N - (bcl + 1)))))), (.int (Int32.ofNat (bcl + 1))), (.ref bs)])
          obtain ⟨T151, h151, X151, e151, W151, V151, st151⟩ := sdJ X150 hx hZ e150 Wl.2.2.2.2.2.1 (j := (Int32.ofNat (bcl + 1))) (own_in_N (by omega) (by omega)) (bcl + 1) (own_nat_N (by omega)) (by rw [hc3]; omega) (g := (mkF m 116 #[.val (.ref so), .val (.int (Int32.ofNat jj))] [(.long (own_L ((own_F A.toInt B.toInt e N) - (own_F A.toInt B.toInt e (N - (bcl + 1)))))), (.int (Int32.ofNat (bcl + 1))), (.ref bs)])) rfl rfl (hb hby dla_116)
          have N151 := Fr.snoc X151 Nl Wl.2.2.2.2.2.2.1.2.2.2.2.1
          have WW151 : own_W Z h151 n0 so rs rt fs bs kr kt kf kb rl tl fl (bll.set (bcl + 1) (.long (own_L ((own_F A.toInt B.toInt e N) - (own_F A.toInt B.toInt e (N - (bcl + 1))))))) zl [(.ref rs), (.ref rt), (.int rc), (.int (Int32.ofNat N)), (.long sm), (.ref fs), (.int (Int32.ofNat fc)), (.int fr), (.ref bs), (.int (Int32.ofNat bcl)), (.int (0 : Int32)), (.int los), (.int lo), (.long gb), (.long ga)] := own_W_bs Wl W151 V151
          refine Rch.go st151 ?_
          show Rch p ev below _ T151 (mkF m 117 #[.val (.ref so), .val (.int (Int32.ofNat jj))] [])
          refine Rch.go (fun _ q => XS.aloadN X151.here hx rfl (hb hby dla_117) rfl rfl q) ?_
          show Rch p ev below _ T151 (mkF m 118 #[.val (.ref so), .val (.int (Int32.ofNat jj))] [(.ref so)])
          refine Rch.go (fun _ q => XS.dup X151.here hx rfl (hb hby dla_118) rfl rfl q) ?_
          show Rch p ev below _ T151 (mkF m 119 #[.val (.ref so), .val (.int (Int32.ofNat jj))] [(.ref so), (.ref so)])
          obtain ⟨T152, X152, e152, st152⟩ := getF X151 hx hZ hown (host := "") (Or.inl (hw _ (List.mem_of_getElem? (i := 37) rfl))) Via.refl e151 (WW151.2.1 9 _ _ _ rfl rfl) (g := (mkF m 119 #[.val (.ref so), .val (.int (Int32.ofNat jj))] [(.ref so), (.ref so)])) rfl rfl (hb hby dla_119)
          refine Rch.go st152 ?_
          show Rch p ev below _ T152 (mkF m 122 #[.val (.ref so), .val (.int (Int32.ofNat jj))] [(.int (Int32.ofNat bcl)), (.ref so)])
          refine Rch.go (fun _ q => XS.iconst X152.here hx rfl (hb hby dla_122) q) ?_
          show Rch p ev below _ T152 (mkF m 123 #[.val (.ref so), .val (.int (Int32.ofNat jj))] [(.int (1 : Int32)), (.int (Int32.ofNat bcl)), (.ref so)])
          refine Rch.go (fun _ q => XS.iadd X152.here hx rfl (hb hby dla_123) rfl q) ?_
          show Rch p ev below _ T152 (mkF m 124 #[.val (.ref so), .val (.int (Int32.ofNat jj))] [(.int ((Int32.ofNat bcl) + (1 : Int32))), (.ref so)])
          rw [show (Int32.ofNat bcl + (1 : Int32)) = (Int32.ofNat (bcl + 1)) from (own_add1_N (by omega))]
          show Rch p ev below _ T152 (mkF m 124 #[.val (.ref so), .val (.int (Int32.ofNat jj))] [(.int (Int32.ofNat (bcl + 1))), (.ref so)])
          obtain ⟨T153, h153, X153, e153, W153, st153⟩ := putF X152 hx hZ hown (host := "") (Or.inl (hw _ (List.mem_of_getElem? (i := 37) rfl))) Via.refl e152 (WW151.2.1 9 _ _ _ rfl rfl) WW151.1 (Or.inl (hw _ (List.mem_of_getElem? (i := 38) rfl))) (hw _ (List.mem_of_getElem? (i := 8) rfl)) (ty := .int) (by decide) rfl rfl (g := (mkF m 124 #[.val (.ref so), .val (.int (Int32.ofNat jj))] [(.int (Int32.ofNat (bcl + 1))), (.ref so)])) rfl rfl (hb hby dla_124)
          have N153 := Fr.snoc X153 N151 WW151.2.2.2.2.2.2.1.1
          have Z153 : n0 ≤ h153.size := by rw [W153.size]; exact WW151.2.2.2.2.2.2.1.2.2.2.2.2
          refine Rch.go st153 ?_
          show Rch p ev below _ T153 (mkF m 127 #[.val (.ref so), .val (.int (Int32.ofNat jj))] [])
          have WW153 : own_W Z h153 n0 so rs rt fs bs kr kt kf kb rl tl fl (bll.set (bcl + 1) (.long (own_L ((own_F A.toInt B.toInt e N) - (own_F A.toInt B.toInt e (N - (bcl + 1))))))) zl [(.ref rs), (.ref rt), (.int rc), (.int (Int32.ofNat N)), (.long sm), (.ref fs), (.int (Int32.ofNat fc)), (.int fr), (.ref bs), (.int (Int32.ofNat (bcl + 1))), (.int (0 : Int32)), (.int los), (.int lo), (.long gb), (.long ga)] := own_W_put hw WW151 9 rfl W153
          refine Rch.go (fun _ q => XS.goto X153.here hx rfl (pc0 := 127) (pc' := 47) rfl (hb hby dla_127) (by decide) (by decide) q) ?_
          show Rch p ev below _ T153 (mkF m 47 #[.val (.ref so), .val (.int (Int32.ofNat jj))] [])
          exact ih _ _ _ (bcl + 1) (0 : Int32) _ X153 e153 N153 WW153 ⟨by omega, Or.inr ⟨hr, Or.inr ⟨rfl, by omega⟩⟩, by rw [List.length_set]; exact hc3, fun i hi => by
            rw [own_getD_set _ _ _ _ _ (by rw [hc3]; omega)]
            by_cases q : i = bcl + 1
            · rw [if_pos q, q]
            · rw [if_neg q]; exact hvals i (by omega)⟩ (by omega)
      · skip
        refine Rch.go (fun _ q => XS.icmpYes X103.here hx rfl (pc0 := 52) (pc' := 130) rfl (hb hby dla_52) rfl (flt ((mt (own_lt_N (a := bcl) (b := jj) (by omega) (by omega)).mp hc52))).2.1 (by decide) (by decide) q) ?_
        show Rch p ev below _ T103 (mkF m 130 #[.val (.ref so), .val (.int (Int32.ofNat jj))] [])
        refine Rch.go (fun _ q => XS.aloadN X103.here hx rfl (hb hby dla_130) rfl rfl q) ?_
        show Rch p ev below _ T103 (mkF m 131 #[.val (.ref so), .val (.int (Int32.ofNat jj))] [(.ref so)])
        obtain ⟨T154, X154, e154, st154⟩ := getF X103 hx hZ hown (host := "") (Or.inl (hw _ (List.mem_of_getElem? (i := 19) rfl))) Via.refl e103 (Wl.2.1 8 _ _ _ rfl rfl) (g := (mkF m 131 #[.val (.ref so), .val (.int (Int32.ofNat jj))] [(.ref so)])) rfl rfl (hb hby dla_131)
        refine Rch.go st154 ?_
        show Rch p ev below _ T154 (mkF m 134 #[.val (.ref so), .val (.int (Int32.ofNat jj))] [(.ref bs)])
        refine Rch.go (fun _ q => XS.iloadN X154.here hx rfl (hb hby dla_134) rfl  q) ?_
        show Rch p ev below _ T154 (mkF m 135 #[.val (.ref so), .val (.int (Int32.ofNat jj))] [(.int (Int32.ofNat jj)), (.ref bs)])
        refine Rch.go (fun _ q => ldJ X154 hx hZ e154 Wl.2.2.2.2.2.1 (j := (Int32.ofNat jj)) (v := (.long (own_L ((own_F A.toInt B.toInt e N) - (own_F A.toInt B.toInt e (N - jj)))))) (own_in_N (by omega) (by omega)) (by rw [own_nat_N (by omega)]; exact hvals jj (by omega)) (g := (mkF m 135 #[.val (.ref so), .val (.int (Int32.ofNat jj))] [(.int (Int32.ofNat jj)), (.ref bs)])) rfl rfl (hb hby dla_135) _ q) ?_
        show Rch p ev below _ T154 (mkF m 136 #[.val (.ref so), .val (.int (Int32.ofNat jj))] [(.long (own_L ((own_F A.toInt B.toInt e N) - (own_F A.toInt B.toInt e (N - jj)))))])
        refine Rch.retJ X154 hx hlk Bd.returns (hb hby dla_136) (by decide) (by decide) ?_
        unfold Qrmla0b
        rw [e154]
        exact ⟨rfl, Nl, fc, bcl, rs, rt, fs, bs, kr, kt, kf, kb, rl, tl, fl, bll, zl, fr, brl, los, sm, gb, Wl, Is, If, hinv⟩
  refine Rch.go (fun _ q => XS.iloadN X0.here hx rfl (hb hby dla_0) rfl  q) ?_
  show Rch p ev below _ s₁ (mkF m 1 #[.val (.ref so), .val (.int (Int32.ofNat jj))] [(.int (Int32.ofNat jj))])
  refine Rch.go (fun _ q => XS.aloadN X0.here hx rfl (hb hby dla_1) rfl rfl q) ?_
  show Rch p ev below _ s₁ (mkF m 2 #[.val (.ref so), .val (.int (Int32.ofNat jj))] [(.ref so), (.int (Int32.ofNat jj))])
  obtain ⟨T155, X155, e155, st155⟩ := getF X0 hx hZ hown (host := "") (Or.inl (hw _ (List.mem_of_getElem? (i := 37) rfl))) Via.refl e0 (WW.2.1 9 _ _ _ rfl rfl) (g := (mkF m 2 #[.val (.ref so), .val (.int (Int32.ofNat jj))] [(.ref so), (.int (Int32.ofNat jj))])) rfl rfl (hb hby dla_2)
  refine Rch.go st155 ?_
  show Rch p ev below _ T155 (mkF m 5 #[.val (.ref so), .val (.int (Int32.ofNat jj))] [(.int (Int32.ofNat bc)), (.int (Int32.ofNat jj))])
  by_cases hc5 : bc < jj
  · skip
    refine Rch.go (fun _ q => XS.icmpNo X155.here hx rfl (hb hby dla_5) rfl (tlt ((own_lt_N (a := bc) (b := jj) (by omega) (by omega)).mpr hc5)).2.2.2 q) ?_
    show Rch p ev below _ T155 (mkF m 8 #[.val (.ref so), .val (.int (Int32.ofNat jj))] [])
    refine Rch.go (fun _ q => XS.aloadN X155.here hx rfl (hb hby dla_8) rfl rfl q) ?_
    show Rch p ev below _ T155 (mkF m 9 #[.val (.ref so), .val (.int (Int32.ofNat jj))] [(.ref so)])
    obtain ⟨T156, X156, e156, st156⟩ := getF X155 hx hZ hown (host := "") (Or.inl (hw _ (List.mem_of_getElem? (i := 33) rfl))) Via.refl e155 (WW.2.1 3 _ _ _ rfl rfl) (g := (mkF m 9 #[.val (.ref so), .val (.int (Int32.ofNat jj))] [(.ref so)])) rfl rfl (hb hby dla_9)
    refine Rch.go st156 ?_
    show Rch p ev below _ T156 (mkF m 12 #[.val (.ref so), .val (.int (Int32.ofNat jj))] [(.int (Int32.ofNat N))])
    refine Rch.go (fun _ q => XS.iloadN X156.here hx rfl (hb hby dla_12) rfl  q) ?_
    show Rch p ev below _ T156 (mkF m 13 #[.val (.ref so), .val (.int (Int32.ofNat jj))] [(.int (Int32.ofNat jj)), (.int (Int32.ofNat N))])
    refine Rch.go (fun _ q => XS.isub X156.here hx rfl (hb hby dla_13) rfl q) ?_
    show Rch p ev below _ T156 (mkF m 14 #[.val (.ref so), .val (.int (Int32.ofNat jj))] [(.int ((Int32.ofNat N) - (Int32.ofNat jj)))])
    rw [show (Int32.ofNat N - Int32.ofNat jj) = (Int32.ofNat (N - jj)) from (own_sub_N (by omega) (by omega))]
    show Rch p ev below _ T156 (mkF m 14 #[.val (.ref so), .val (.int (Int32.ofNat jj))] [(.int (Int32.ofNat (N - jj)))])
    refine Rch.go (fun _ q => XS.aloadN X156.here hx rfl (hb hby dla_14) rfl rfl q) ?_
    show Rch p ev below _ T156 (mkF m 15 #[.val (.ref so), .val (.int (Int32.ofNat jj))] [(.ref so), (.int (Int32.ofNat (N - jj)))])
    obtain ⟨T157, X157, e157, st157⟩ := getF X156 hx hZ hown (host := "") (Or.inl (hw _ (List.mem_of_getElem? (i := 74) rfl))) Via.refl e156 (WW.2.1 6 _ _ _ rfl rfl) (g := (mkF m 15 #[.val (.ref so), .val (.int (Int32.ofNat jj))] [(.ref so), (.int (Int32.ofNat (N - jj)))])) rfl rfl (hb hby dla_15)
    refine Rch.go st157 ?_
    show Rch p ev below _ T157 (mkF m 18 #[.val (.ref so), .val (.int (Int32.ofNat jj))] [(.int (Int32.ofNat fc)), (.int (Int32.ofNat (N - jj)))])
    refine Rch.go (fun _ q => XS.icmpNo X157.here hx rfl (hb hby dla_18) rfl (tlt ((own_lt_N (a := fc) (b := N - jj) (by omega) (by omega)).mpr (by omega))).2.2.2 q) ?_
    show Rch p ev below _ T157 (mkF m 21 #[.val (.ref so), .val (.int (Int32.ofNat jj))] [])
    refine Rch.go (fun _ q => XS.aloadN X157.here hx rfl (hb hby dla_21) rfl rfl q) ?_
    show Rch p ev below _ T157 (mkF m 22 #[.val (.ref so), .val (.int (Int32.ofNat jj))] [(.ref so)])
    obtain ⟨T158, X158, e158, st158⟩ := getF X157 hx hZ hown (host := "") (Or.inl (hw _ (List.mem_of_getElem? (i := 33) rfl))) Via.refl e157 (WW.2.1 3 _ _ _ rfl rfl) (g := (mkF m 22 #[.val (.ref so), .val (.int (Int32.ofNat jj))] [(.ref so)])) rfl rfl (hb hby dla_22)
    refine Rch.go st158 ?_
    show Rch p ev below _ T158 (mkF m 25 #[.val (.ref so), .val (.int (Int32.ofNat jj))] [(.int (Int32.ofNat N))])
    refine Rch.go (fun _ q => XS.iloadN X158.here hx rfl (hb hby dla_25) rfl  q) ?_
    show Rch p ev below _ T158 (mkF m 26 #[.val (.ref so), .val (.int (Int32.ofNat jj))] [(.int (Int32.ofNat jj)), (.int (Int32.ofNat N))])
    refine Rch.go (fun _ q => XS.isub X158.here hx rfl (hb hby dla_26) rfl q) ?_
    show Rch p ev below _ T158 (mkF m 27 #[.val (.ref so), .val (.int (Int32.ofNat jj))] [(.int ((Int32.ofNat N) - (Int32.ofNat jj)))])
    rw [show (Int32.ofNat N - Int32.ofNat jj) = (Int32.ofNat (N - jj)) from (own_sub_N (by omega) (by omega))]
    show Rch p ev below _ T158 (mkF m 27 #[.val (.ref so), .val (.int (Int32.ofNat jj))] [(.int (Int32.ofNat (N - jj)))])
    refine Rch.go (fun _ q => XS.iloadN X158.here hx rfl (hb hby dla_27) rfl  q) ?_
    show Rch p ev below _ T158 (mkF m 28 #[.val (.ref so), .val (.int (Int32.ofNat jj))] [(.int (Int32.ofNat jj)), (.int (Int32.ofNat (N - jj)))])
    refine Rch.go (fun _ q => XS.icmpYes X158.here hx rfl (pc0 := 28) (pc' := 47) rfl (hb hby dla_28) rfl (flt (mt (own_lt_N (a := N - jj) (b := jj) (by omega) (by omega)).mp (by omega))).2.1 (by decide) (by decide) q) ?_
    show Rch p ev below _ T158 (mkF m 47 #[.val (.ref so), .val (.int (Int32.ofNat jj))] [])
    exact loop jj _ _ _ bc _ _ X158 e158 N0 WW Ib (by omega)
  · skip
    refine Rch.go (fun _ q => XS.icmpYes X155.here hx rfl (pc0 := 5) (pc' := 47) rfl (hb hby dla_5) rfl (flt ((mt (own_lt_N (a := bc) (b := jj) (by omega) (by omega)).mp hc5))).2.2.2 (by decide) (by decide) q) ?_
    show Rch p ev below _ T155 (mkF m 47 #[.val (.ref so), .val (.int (Int32.ofNat jj))] [])
    exact loop jj _ _ _ bc _ _ X155 e155 N0 WW Ib (by omega)
theorem own_pn5 : plainFor (⟨"com/example/binflow/binflow/solve/SubsetSums", "first", "(I)J"⟩ : MethodName) = true := by first | exact plainFor_of_name (by first | (simp [plainName, overriddenIn]; done) | decide +kernel) | decide +kernel
theorem dfi_0 : decode prog_23_method_14_code 0 = .ok (.iload_n 1, 1) := by decide +kernel
theorem dfi_1 : decode prog_23_method_14_code 1 = .ok (.aload_n 0, 1) := by decide +kernel
theorem dfi_2 : decode prog_23_method_14_code 2 = .ok (.getfield 34, 3) := by decide +kernel
theorem dfi_5 : decode prog_23_method_14_code 5 = .ok (.if_icmp .le 42, 3) := by decide +kernel
theorem dfi_8 : decode prog_23_method_14_code 8 = .ok (.aload_n 0, 1) := by decide +kernel
theorem dfi_9 : decode prog_23_method_14_code 9 = .ok (.getfield 27, 3) := by decide +kernel
theorem dfi_12 : decode prog_23_method_14_code 12 = .ok (.iload_n 1, 1) := by decide +kernel
theorem dfi_13 : decode prog_23_method_14_code 13 = .ok (.isub, 1) := by decide +kernel
theorem dfi_14 : decode prog_23_method_14_code 14 = .ok (.aload_n 0, 1) := by decide +kernel
theorem dfi_15 : decode prog_23_method_14_code 15 = .ok (.getfield 40, 3) := by decide +kernel
theorem dfi_18 : decode prog_23_method_14_code 18 = .ok (.if_icmp .le 13, 3) := by decide +kernel
theorem dfi_21 : decode prog_23_method_14_code 21 = .ok (.aload_n 0, 1) := by decide +kernel
theorem dfi_22 : decode prog_23_method_14_code 22 = .ok (.getfield 27, 3) := by decide +kernel
theorem dfi_25 : decode prog_23_method_14_code 25 = .ok (.iload_n 1, 1) := by decide +kernel
theorem dfi_26 : decode prog_23_method_14_code 26 = .ok (.isub, 1) := by decide +kernel
theorem dfi_27 : decode prog_23_method_14_code 27 = .ok (.iload_n 1, 1) := by decide +kernel
theorem dfi_28 : decode prog_23_method_14_code 28 = .ok (.if_icmp .ge 19, 3) := by decide +kernel
theorem dfi_31 : decode prog_23_method_14_code 31 = .ok (.aload_n 0, 1) := by decide +kernel
theorem dfi_32 : decode prog_23_method_14_code 32 = .ok (.getfield 30, 3) := by decide +kernel
theorem dfi_35 : decode prog_23_method_14_code 35 = .ok (.aload_n 0, 1) := by decide +kernel
theorem dfi_36 : decode prog_23_method_14_code 36 = .ok (.aload_n 0, 1) := by decide +kernel
theorem dfi_37 : decode prog_23_method_14_code 37 = .ok (.getfield 27, 3) := by decide +kernel
theorem dfi_40 : decode prog_23_method_14_code 40 = .ok (.iload_n 1, 1) := by decide +kernel
theorem dfi_41 : decode prog_23_method_14_code 41 = .ok (.isub, 1) := by decide +kernel
theorem dfi_42 : decode prog_23_method_14_code 42 = .ok (.invokevirtual 100, 3) := by decide +kernel
theorem dfi_45 : decode prog_23_method_14_code 45 = .ok (.lsub, 1) := by decide +kernel
theorem dfi_46 : decode prog_23_method_14_code 46 = .ok (.lreturn, 1) := by decide +kernel
theorem dfi_47 : decode prog_23_method_14_code 47 = .ok (.aload_n 0, 1) := by decide +kernel
theorem dfi_48 : decode prog_23_method_14_code 48 = .ok (.getfield 34, 3) := by decide +kernel
theorem dfi_51 : decode prog_23_method_14_code 51 = .ok (.iload_n 1, 1) := by decide +kernel
theorem dfi_52 : decode prog_23_method_14_code 52 = .ok (.if_icmp .ge 72, 3) := by decide +kernel
theorem dfi_55 : decode prog_23_method_14_code 55 = .ok (.aload_n 0, 1) := by decide +kernel
theorem dfi_56 : decode prog_23_method_14_code 56 = .ok (.getfield 34, 3) := by decide +kernel
theorem dfi_59 : decode prog_23_method_14_code 59 = .ok (.aload_n 0, 1) := by decide +kernel
theorem dfi_60 : decode prog_23_method_14_code 60 = .ok (.aload_n 0, 1) := by decide +kernel
theorem dfi_61 : decode prog_23_method_14_code 61 = .ok (.getfield 37, 3) := by decide +kernel
theorem dfi_64 : decode prog_23_method_14_code 64 = .ok (.invokevirtual 103, 3) := by decide +kernel
theorem dfi_67 : decode prog_23_method_14_code 67 = .ok (.if_icmp .ne 13, 3) := by decide +kernel
theorem dfi_70 : decode prog_23_method_14_code 70 = .ok (.aload_n 0, 1) := by decide +kernel
theorem dfi_71 : decode prog_23_method_14_code 71 = .ok (.dup, 1) := by decide +kernel
theorem dfi_72 : decode prog_23_method_14_code 72 = .ok (.getfield 37, 3) := by decide +kernel
theorem dfi_75 : decode prog_23_method_14_code 75 = .ok (.iconst 1, 1) := by decide +kernel
theorem dfi_76 : decode prog_23_method_14_code 76 = .ok (.iadd, 1) := by decide +kernel
theorem dfi_77 : decode prog_23_method_14_code 77 = .ok (.putfield 37, 3) := by decide +kernel
theorem dfi_80 : decode prog_23_method_14_code 80 = .ok (.aload_n 0, 1) := by decide +kernel
theorem dfi_81 : decode prog_23_method_14_code 81 = .ok (.getfield 7, 3) := by decide +kernel
theorem dfi_84 : decode prog_23_method_14_code 84 = .ok (.aload_n 0, 1) := by decide +kernel
theorem dfi_85 : decode prog_23_method_14_code 85 = .ok (.getfield 34, 3) := by decide +kernel
theorem dfi_88 : decode prog_23_method_14_code 88 = .ok (.iconst 1, 1) := by decide +kernel
theorem dfi_89 : decode prog_23_method_14_code 89 = .ok (.iadd, 1) := by decide +kernel
theorem dfi_90 : decode prog_23_method_14_code 90 = .ok (.aload_n 0, 1) := by decide +kernel
theorem dfi_91 : decode prog_23_method_14_code 91 = .ok (.getfield 7, 3) := by decide +kernel
theorem dfi_94 : decode prog_23_method_14_code 94 = .ok (.aload_n 0, 1) := by decide +kernel
theorem dfi_95 : decode prog_23_method_14_code 95 = .ok (.getfield 34, 3) := by decide +kernel
theorem dfi_98 : decode prog_23_method_14_code 98 = .ok (.laload, 1) := by decide +kernel
theorem dfi_99 : decode prog_23_method_14_code 99 = .ok (.aload_n 0, 1) := by decide +kernel
theorem dfi_100 : decode prog_23_method_14_code 100 = .ok (.getfield 16, 3) := by decide +kernel
theorem dfi_103 : decode prog_23_method_14_code 103 = .ok (.aload_n 0, 1) := by decide +kernel
theorem dfi_104 : decode prog_23_method_14_code 104 = .ok (.getfield 37, 3) := by decide +kernel
theorem dfi_107 : decode prog_23_method_14_code 107 = .ok (.iaload, 1) := by decide +kernel
theorem dfi_108 : decode prog_23_method_14_code 108 = .ok (.i2l, 1) := by decide +kernel
theorem dfi_109 : decode prog_23_method_14_code 109 = .ok (.ladd, 1) := by decide +kernel
theorem dfi_110 : decode prog_23_method_14_code 110 = .ok (.lastore, 1) := by decide +kernel
theorem dfi_111 : decode prog_23_method_14_code 111 = .ok (.aload_n 0, 1) := by decide +kernel
theorem dfi_112 : decode prog_23_method_14_code 112 = .ok (.dup, 1) := by decide +kernel
theorem dfi_113 : decode prog_23_method_14_code 113 = .ok (.getfield 34, 3) := by decide +kernel
theorem dfi_116 : decode prog_23_method_14_code 116 = .ok (.iconst 1, 1) := by decide +kernel
theorem dfi_117 : decode prog_23_method_14_code 117 = .ok (.iadd, 1) := by decide +kernel
theorem dfi_118 : decode prog_23_method_14_code 118 = .ok (.putfield 34, 3) := by decide +kernel
theorem dfi_121 : decode prog_23_method_14_code 121 = .ok (.goto (-74), 3) := by decide +kernel
theorem dfi_124 : decode prog_23_method_14_code 124 = .ok (.aload_n 0, 1) := by decide +kernel
theorem dfi_125 : decode prog_23_method_14_code 125 = .ok (.getfield 7, 3) := by decide +kernel
theorem dfi_128 : decode prog_23_method_14_code 128 = .ok (.iload_n 1, 1) := by decide +kernel
theorem dfi_129 : decode prog_23_method_14_code 129 = .ok (.laload, 1) := by decide +kernel
theorem dfi_130 : decode prog_23_method_14_code 130 = .ok (.lreturn, 1) := by decide +kernel
theorem own_ef8 (m : MethodId) (x0 : Addr) (x1 : Int32) : entryFrame m #[(.ref x0), (.int x1)] 2 = mkF m 0 #[.val (.ref x0), .val (.int x1)] [] := by first | (simp [entryFrame, mkF, argsToLocals, Value.category, maxLocals]; done) | rfl
def Qrmfi0 (Z : State) (so : Addr) (A B : Int32) (e N : Nat) (rc lo : Int32) (ga : Int64) (fc bc jj : Nat) (h0 : Heap) (n0 : Nat) : Option Value → Heap → List Loc → Prop := fun v h L => v = some (.long (own_L (own_F A.toInt B.toInt e jj))) ∧ Fr n0 L ∧ own_Sg Z h n0 so A B e N rc lo ga
set_option maxRecDepth 65536 in
set_option maxHeartbeats 40000000 in
theorem rmfi0 (l : Launch) (Z : State) (a0 : Array Value) (hw : ∀ d ∈ tables_1, d.before a0 Z = true) (ws : List Jvm.Cond) (so : Addr) (A B : Int32) (e N : Nat) (rc lo : Int32) (ga : Int64) (fc bc jj : Nat) (h0 : Heap) (n0 : Nat) (Z0 : n0 ≤ h0.size) (S : own_Sx Z h0 n0 so A B e N rc lo ga fc bc) (hj : jj ≤ N) (hb0 : ¬ (fc < jj ∧ (N - jj ≤ bc ∨ N - jj < jj))) :
    MetFree l (⟨"com/example/binflow/binflow/solve/SubsetSums", "first", "(I)J"⟩ : MethodName) (head1 (Jvm.Cond.code (⟨"com/example/binflow/binflow/solve/SubsetSums", "first", "(I)J"⟩ : MethodName) prog_23_method_14_code 2 (some .long) :: ws) ({ frames := 1, cells := 0, slots := 0, locals := 15 } : Room)) (fun a U => a = #[(.ref so), (.int (Int32.ofNat jj))] ∧ Z.Warmed39 U.vm ∧ U.heap = h0) (fun _ _ _ _ _ => True) (fun _ U o U' => ∃ v L, o = .returned v ∧ (Qrmfi0 Z so A B e N rc lo ga fc bc jj h0 n0) v U'.heap L ∧ FrameEnd U o U' L ({ frames := 1, cells := 0, slots := 0, locals := 15 } : Room).cells ({ frames := 1, cells := 0, slots := 0, locals := 15 } : Room).slots) := by
  refine MetFree.of_bodySF own_pn5 hisR ?_
  intro p ev s m args below meth c s₁ Bd hml0 hP hK
  obtain ⟨rfl, hZ, hh⟩ := hP
  have hx := Bd.exec
  have hby := Bd.bytes
  have hlk := Bd.notSynchronized
  have hml : c.maxLocals = 2 := hml0
  have hown : s.vm.findClass "com/example/binflow/binflow/solve/SubsetSums" = some m.cls := findClass_of_methodNamed Bd.named
  have hnm := (name_of_methodNamed Bd.named Bd.method).1
  have X0 : Stand p l ev ({ frames := 1, cells := 0, slots := 0, locals := 15 } : Room) s m #[(.ref so), (.int (Int32.ofNat jj))] below meth c s₁ [] 0 0 := Stand.of_body Bd
  have e0 : s₁.heap = h0 := by rw [← hh, Bd.state]; rfl
  have N0 := Fr.nil n0
  refine Rch.entry (G := (EndQ (Qrmfi0 Z so A B e N rc lo ga fc bc jj h0 n0) s ({ frames := 1, cells := 0, slots := 0, locals := 15 } : Room).cells ({ frames := 1, cells := 0, slots := 0, locals := 15 } : Room).slots)) (own_ef8 m so (Int32.ofNat jj)) ?_
  show Rch p ev below _ s₁ (mkF m 0 #[.val (.ref so), .val (.int (Int32.ofNat jj))] [])
  obtain ⟨rs, rt, fs, bs, kr, kt, kf, kb, rl, tl, fl, bl, zl, fr, br, los, sm, gb, WW, Is, If, Ib⟩ := id S
  obtain ⟨hA, hB, he1, heN, hN8, hrc, r0, r1, t0, t1, zN, z16, hsm, hrl2, htl2⟩ := id Is
  have hfcN := If.1
  have hbcN := Ib.1
  have nzl := own_nat zl (by omega)
  have loop : ∀ (k : Nat) (Tl : State) (hl : Heap) (Ll : List Loc) (fcl : Nat) (frl : Int32) (fll : List Value), Stand p l ev ({ frames := 1, cells := 0, slots := 0, locals := 15 } : Room) s m #[(.ref so), (.int (Int32.ofNat jj))] below meth c Tl Ll 0 0 → Tl.heap = hl → Fr n0 Ll → own_W Z hl n0 so rs rt fs bs kr kt kf kb rl tl fll bl zl [(.ref rs), (.ref rt), (.int rc), (.int (Int32.ofNat N)), (.long sm), (.ref fs), (.int (Int32.ofNat fcl)), (.int frl), (.ref bs), (.int (Int32.ofNat bc)), (.int br), (.int los), (.int lo), (.long gb), (.long ga)] → own_If A B e N zl fll fcl frl → jj ≤ fcl + k → Rch p ev below (EndQ (Qrmfi0 Z so A B e N rc lo ga fc bc jj h0 n0) s ({ frames := 1, cells := 0, slots := 0, locals := 15 } : Room).cells ({ frames := 1, cells := 0, slots := 0, locals := 15 } : Room).slots) Tl (mkF m 47 #[.val (.ref so), .val (.int (Int32.ofNat jj))] []) := by
    intro k
    induction k with
    | zero =>
      intro Tl hl Ll fcl frl fll Xl el Nl Wl hinv hk
      obtain ⟨hc1, hc2, hc3, hvals⟩ := id hinv
      show Rch p ev below _ Tl (mkF m 47 #[.val (.ref so), .val (.int (Int32.ofNat jj))] [])
      refine Rch.go (fun _ q => XS.aloadN Xl.here hx rfl (hb hby dfi_47) rfl rfl q) ?_
      show Rch p ev below _ Tl (mkF m 48 #[.val (.ref so), .val (.int (Int32.ofNat jj))] [(.ref so)])
      obtain ⟨T101, X101, e101, st101⟩ := getF Xl hx hZ hown (host := "") (Or.inl (hw _ (List.mem_of_getElem? (i := 74) rfl))) Via.refl el (Wl.2.1 6 _ _ _ rfl rfl) (g := (mkF m 48 #[.val (.ref so), .val (.int (Int32.ofNat jj))] [(.ref so)])) rfl rfl (hb hby dfi_48)
      refine Rch.go st101 ?_
      show Rch p ev below _ T101 (mkF m 51 #[.val (.ref so), .val (.int (Int32.ofNat jj))] [(.int (Int32.ofNat fcl))])
      refine Rch.go (fun _ q => XS.iloadN X101.here hx rfl (hb hby dfi_51) rfl  q) ?_
      show Rch p ev below _ T101 (mkF m 52 #[.val (.ref so), .val (.int (Int32.ofNat jj))] [(.int (Int32.ofNat jj)), (.int (Int32.ofNat fcl))])
      refine Rch.go (fun _ q => XS.icmpYes X101.here hx rfl (pc0 := 52) (pc' := 124) rfl (hb hby dfi_52) rfl (flt (mt (own_lt_N (a := fcl) (b := jj) (by omega) (by omega)).mp (by omega))).2.1 (by decide) (by decide) q) ?_
      show Rch p ev below _ T101 (mkF m 124 #[.val (.ref so), .val (.int (Int32.ofNat jj))] [])
      refine Rch.go (fun _ q => XS.aloadN X101.here hx rfl (hb hby dfi_124) rfl rfl q) ?_
      show Rch p ev below _ T101 (mkF m 125 #[.val (.ref so), .val (.int (Int32.ofNat jj))] [(.ref so)])
      obtain ⟨T102, X102, e102, st102⟩ := getF X101 hx hZ hown (host := "") (Or.inl (hw _ (List.mem_of_getElem? (i := 17) rfl))) Via.refl e101 (Wl.2.1 5 _ _ _ rfl rfl) (g := (mkF m 125 #[.val (.ref so), .val (.int (Int32.ofNat jj))] [(.ref so)])) rfl rfl (hb hby dfi_125)
      refine Rch.go st102 ?_
      show Rch p ev below _ T102 (mkF m 128 #[.val (.ref so), .val (.int (Int32.ofNat jj))] [(.ref fs)])
      refine Rch.go (fun _ q => XS.iloadN X102.here hx rfl (hb hby dfi_128) rfl  q) ?_
      show Rch p ev below _ T102 (mkF m 129 #[.val (.ref so), .val (.int (Int32.ofNat jj))] [(.int (Int32.ofNat jj)), (.ref fs)])
      refine Rch.go (fun _ q => ldJ X102 hx hZ e102 Wl.2.2.2.2.1 (j := (Int32.ofNat jj)) (v := (.long (own_L (own_F A.toInt B.toInt e jj)))) (own_in_N (by omega) (by omega)) (by rw [own_nat_N (by omega)]; exact hvals jj (by omega)) (g := (mkF m 129 #[.val (.ref so), .val (.int (Int32.ofNat jj))] [(.int (Int32.ofNat jj)), (.ref fs)])) rfl rfl (hb hby dfi_129) _ q) ?_
      show Rch p ev below _ T102 (mkF m 130 #[.val (.ref so), .val (.int (Int32.ofNat jj))] [(.long (own_L (own_F A.toInt B.toInt e jj)))])
      refine Rch.retJ X102 hx hlk Bd.returns (hb hby dfi_130) (by decide) (by decide) ?_
      unfold Qrmfi0
      rw [e102]
      exact ⟨rfl, Nl, fcl, bc, rs, rt, fs, bs, kr, kt, kf, kb, rl, tl, fll, bl, zl, frl, br, los, sm, gb, Wl, Is, hinv, Ib⟩
    | succ k ih =>
      intro Tl hl Ll fcl frl fll Xl el Nl Wl hinv hk
      obtain ⟨hc1, hc2, hc3, hvals⟩ := id hinv
      show Rch p ev below _ Tl (mkF m 47 #[.val (.ref so), .val (.int (Int32.ofNat jj))] [])
      refine Rch.go (fun _ q => XS.aloadN Xl.here hx rfl (hb hby dfi_47) rfl rfl q) ?_
      show Rch p ev below _ Tl (mkF m 48 #[.val (.ref so), .val (.int (Int32.ofNat jj))] [(.ref so)])
      obtain ⟨T103, X103, e103, st103⟩ := getF Xl hx hZ hown (host := "") (Or.inl (hw _ (List.mem_of_getElem? (i := 74) rfl))) Via.refl el (Wl.2.1 6 _ _ _ rfl rfl) (g := (mkF m 48 #[.val (.ref so), .val (.int (Int32.ofNat jj))] [(.ref so)])) rfl rfl (hb hby dfi_48)
      refine Rch.go st103 ?_
      show Rch p ev below _ T103 (mkF m 51 #[.val (.ref so), .val (.int (Int32.ofNat jj))] [(.int (Int32.ofNat fcl))])
      refine Rch.go (fun _ q => XS.iloadN X103.here hx rfl (hb hby dfi_51) rfl  q) ?_
      show Rch p ev below _ T103 (mkF m 52 #[.val (.ref so), .val (.int (Int32.ofNat jj))] [(.int (Int32.ofNat jj)), (.int (Int32.ofNat fcl))])
      by_cases hc52 : fcl < jj
      · skip
        refine Rch.go (fun _ q => XS.icmpNo X103.here hx rfl (hb hby dfi_52) rfl (tlt ((own_lt_N (a := fcl) (b := jj) (by omega) (by omega)).mpr hc52)).2.1 q) ?_
        show Rch p ev below _ T103 (mkF m 55 #[.val (.ref so), .val (.int (Int32.ofNat jj))] [])
        rcases hc2 with ⟨hfr, hfe⟩ | ⟨hfr, hfe⟩
        · subst hfr
          show Rch p ev below _ T103 (mkF m 55 #[.val (.ref so), .val (.int (Int32.ofNat jj))] [])
          refine Rch.go (fun _ q => XS.aloadN X103.here hx rfl (hb hby dfi_55) rfl rfl q) ?_
          show Rch p ev below _ T103 (mkF m 56 #[.val (.ref so), .val (.int (Int32.ofNat jj))] [(.ref so)])
          obtain ⟨T104, X104, e104, st104⟩ := getF X103 hx hZ hown (host := "") (Or.inl (hw _ (List.mem_of_getElem? (i := 74) rfl))) Via.refl e103 (Wl.2.1 6 _ _ _ rfl rfl) (g := (mkF m 56 #[.val (.ref so), .val (.int (Int32.ofNat jj))] [(.ref so)])) rfl rfl (hb hby dfi_56)
          refine Rch.go st104 ?_
          show Rch p ev below _ T104 (mkF m 59 #[.val (.ref so), .val (.int (Int32.ofNat jj))] [(.int (Int32.ofNat fcl))])
          refine Rch.go (fun _ q => XS.aloadN X104.here hx rfl (hb hby dfi_59) rfl rfl q) ?_
          show Rch p ev below _ T104 (mkF m 60 #[.val (.ref so), .val (.int (Int32.ofNat jj))] [(.ref so), (.int (Int32.ofNat fcl))])
          refine Rch.go (fun _ q => XS.aloadN X104.here hx rfl (hb hby dfi_60) rfl rfl q) ?_
          show Rch p ev below _ T104 (mkF m 61 #[.val (.ref so), .val (.int (Int32.ofNat jj))] [(.ref so), (.ref so), (.int (Int32.ofNat fcl))])
          obtain ⟨T105, X105, e105, st105⟩ := getF X104 hx hZ hown (host := "") (Or.inl (hw _ (List.mem_of_getElem? (i := 85) rfl))) Via.refl e104 (Wl.2.1 7 _ _ _ rfl rfl) (g := (mkF m 61 #[.val (.ref so), .val (.int (Int32.ofNat jj))] [(.ref so), (.ref so), (.int (Int32.ofNat fcl))])) rfl rfl (hb hby dfi_61)
          refine Rch.go st105 ?_
          show Rch p ev below _ T105 (mkF m 64 #[.val (.ref so), .val (.int (Int32.ofNat jj))] [(.int (0 : Int32)), (.ref so), (.int (Int32.ofNat fcl))])
          obtain ⟨cq106, q106, q106'⟩ := Exa.cell Wl.1
          obtain ⟨_, _, ⟨T106, L106, k106, n106⟩, -, X106, ⟨Lc106, hQ106, l106, y106, z106⟩, st106⟩ := X105.privateBack hx (y := (⟨"com/example/binflow/binflow/solve/SubsetSums", "end", "(I)I"⟩ : MethodName)) hown (mvT hZ (hw _ (List.mem_of_getElem? (i := 115) rfl))) (mvT hZ (hw _ (List.mem_of_getElem? (i := 116) rfl))) (mvT hZ (own_sel (by decide) (hw _ (List.mem_of_getElem? (i := 8) rfl)) (hw _ (List.mem_of_getElem? (i := 117) rfl)) (hw _ (List.mem_of_getElem? (i := 116) rfl)))) (Cond.privateMethod_at (mvP hZ (hw _ (List.mem_of_getElem? (i := 117) rfl)) (args := #[]))) (mvT hZ (hw _ (List.mem_of_getElem? (i := 118) rfl))) (by decide) (backOf (W := 1) (rmen0 l Z a0 hw [] so rs rt fs bs kr kt kf kb rl tl fll bl zl (0 : Int32) br los sm gb fcl bc A B e N rc lo ga hl n0 Wl.2.2.2.2.2.2.1.2.2.2.2.2 Wl Is) hZ (hw _ (List.mem_of_getElem? (i := 118) rfl)) (hw _ (List.mem_of_getElem? (i := 9) rfl)) (by decide) (by decide)) (g := (mkF m 64 #[.val (.ref so), .val (.int (Int32.ofNat jj))] [(.int (0 : Int32)), (.ref so), (.int (Int32.ofNat fcl))])) rfl (by rw [hml]; rfl) (Steps.refl _) (a := so) (by rw [e105]; exact q106) q106' (argsL := [(.int (0 : Int32))]) (rest := [(.int (Int32.ofNat fcl))]) (lenOf own_pd2 rfl) rfl (by show 2 * 0 + _ ≤ _; exact Nat.le_of_eq rfl) (hb hby dfi_64) (fun _ _ => ⟨rfl, e105, (by decide : 0 + 0 ≤ _), (by decide : 0 + 0 ≤ _)⟩)
          dsimp only [Pt.U, Pt.locs, Pt.cells, Pt.slots] at X106 l106 y106 z106 st106 hQ106
          subst l106 y106 z106
          obtain ⟨rfl, Nc, ec⟩ := hQ106
          refine Rch.jump st106 ?_
          show Rch p ev below _ T106 (mkF m 67 #[.val (.ref so), .val (.int (Int32.ofNat jj))] [(.int (Int32.ofNat e)), (.int (Int32.ofNat fcl))])
          have N106 := Fr.app Nl Nc
          have e106 := ec
          by_cases hc67 : fcl = e
          · skip
            refine Rch.go (fun _ q => XS.icmpNo X106.here hx rfl (hb hby dfi_67) rfl (teq (((own_eq_N (a := fcl) (b := e) (by omega) (by omega)).mpr hc67))).2 q) ?_
            show Rch p ev below _ T106 (mkF m 70 #[.val (.ref so), .val (.int (Int32.ofNat jj))] [])
            have hr2 : rc = 2 := by rcases hrc with ⟨q, q2⟩ | ⟨q, q2⟩; exact absurd hc67 (by omega); exact q
            refine Rch.go (fun _ q => XS.aloadN X106.here hx rfl (hb hby dfi_70) rfl rfl q) ?_
            show Rch p ev below _ T106 (mkF m 71 #[.val (.ref so), .val (.int (Int32.ofNat jj))] [(.ref so)])
            refine Rch.go (fun _ q => XS.dup X106.here hx rfl (hb hby dfi_71) rfl rfl q) ?_
            show Rch p ev below _ T106 (mkF m 72 #[.val (.ref so), .val (.int (Int32.ofNat jj))] [(.ref so), (.ref so)])
            obtain ⟨T107, X107, e107, st107⟩ := getF X106 hx hZ hown (host := "") (Or.inl (hw _ (List.mem_of_getElem? (i := 85) rfl))) Via.refl e106 (Wl.2.1 7 _ _ _ rfl rfl) (g := (mkF m 72 #[.val (.ref so), .val (.int (Int32.ofNat jj))] [(.ref so), (.ref so)])) rfl rfl (hb hby dfi_72)
            refine Rch.go st107 ?_
            show Rch p ev below _ T107 (mkF m 75 #[.val (.ref so), .val (.int (Int32.ofNat jj))] [(.int (0 : Int32)), (.ref so)])
            refine Rch.go (fun _ q => XS.iconst X107.here hx rfl (hb hby dfi_75) q) ?_
            show Rch p ev below _ T107 (mkF m 76 #[.val (.ref so), .val (.int (Int32.ofNat jj))] [(.int (1 : Int32)), (.int (0 : Int32)), (.ref so)])
            refine Rch.go (fun _ q => XS.iadd X107.here hx rfl (hb hby dfi_76) rfl q) ?_
            show Rch p ev below _ T107 (mkF m 77 #[.val (.ref so), .val (.int (Int32.ofNat jj))] [(.int ((0 : Int32) + (1 : Int32))), (.ref so)])
            rw [show ((0 : Int32) + (1 : Int32)) = (1 : Int32) from (by decide)]
            show Rch p ev below _ T107 (mkF m 77 #[.val (.ref so), .val (.int (Int32.ofNat jj))] [(.int (1 : Int32)), (.ref so)])
            obtain ⟨T108, h108, X108, e108, W108, st108⟩ := putF X107 hx hZ hown (host := "") (Or.inl (hw _ (List.mem_of_getElem? (i := 85) rfl))) Via.refl e107 (Wl.2.1 7 _ _ _ rfl rfl) Wl.1 (Or.inl (hw _ (List.mem_of_getElem? (i := 86) rfl))) (hw _ (List.mem_of_getElem? (i := 8) rfl)) (ty := .int) (by decide) rfl rfl (g := (mkF m 77 #[.val (.ref so), .val (.int (Int32.ofNat jj))] [(.int (1 : Int32)), (.ref so)])) rfl rfl (hb hby dfi_77)
            have N108 := Fr.snoc X108 N106 Wl.2.2.2.2.2.2.1.1
            have Z108 : n0 ≤ h108.size := by rw [W108.size]; exact Wl.2.2.2.2.2.2.1.2.2.2.2.2
            refine Rch.go st108 ?_
            show Rch p ev below _ T108 (mkF m 80 #[.val (.ref so), .val (.int (Int32.ofNat jj))] [])
            have WW108 : own_W Z h108 n0 so rs rt fs bs kr kt kf kb rl tl fll bl zl [(.ref rs), (.ref rt), (.int rc), (.int (Int32.ofNat N)), (.long sm), (.ref fs), (.int (Int32.ofNat fcl)), (.int (1 : Int32)), (.ref bs), (.int (Int32.ofNat bc)), (.int br), (.int los), (.int lo), (.long gb), (.long ga)] := own_W_put hw Wl 7 rfl W108
            refine Rch.go (fun _ q => XS.aloadN X108.here hx rfl (hb hby dfi_80) rfl rfl q) ?_
            show Rch p ev below _ T108 (mkF m 81 #[.val (.ref so), .val (.int (Int32.ofNat jj))] [(.ref so)])
            obtain ⟨T109, X109, e109, st109⟩ := getF X108 hx hZ hown (host := "") (Or.inl (hw _ (List.mem_of_getElem? (i := 17) rfl))) Via.refl e108 (WW108.2.1 5 _ _ _ rfl rfl) (g := (mkF m 81 #[.val (.ref so), .val (.int (Int32.ofNat jj))] [(.ref so)])) rfl rfl (hb hby dfi_81)
            refine Rch.go st109 ?_
            show Rch p ev below _ T109 (mkF m 84 #[.val (.ref so), .val (.int (Int32.ofNat jj))] [(.ref fs)])
            refine Rch.go (fun _ q => XS.aloadN X109.here hx rfl (hb hby dfi_84) rfl rfl q) ?_
            show Rch p ev below _ T109 (mkF m 85 #[.val (.ref so), .val (.int (Int32.ofNat jj))] [(.ref so), (.ref fs)])
            obtain ⟨T110, X110, e110, st110⟩ := getF X109 hx hZ hown (host := "") (Or.inl (hw _ (List.mem_of_getElem? (i := 74) rfl))) Via.refl e109 (WW108.2.1 6 _ _ _ rfl rfl) (g := (mkF m 85 #[.val (.ref so), .val (.int (Int32.ofNat jj))] [(.ref so), (.ref fs)])) rfl rfl (hb hby dfi_85)
            refine Rch.go st110 ?_
            show Rch p ev below _ T110 (mkF m 88 #[.val (.ref so), .val (.int (Int32.ofNat jj))] [(.int (Int32.ofNat fcl)), (.ref fs)])
            refine Rch.go (fun _ q => XS.iconst X110.here hx rfl (hb hby dfi_88) q) ?_
            show Rch p ev below _ T110 (mkF m 89 #[.val (.ref so), .val (.int (Int32.ofNat jj))] [(.int (1 : Int32)), (.int (Int32.ofNat fcl)), (.ref fs)])
            refine Rch.go (fun _ q => XS.iadd X110.here hx rfl (hb hby dfi_89) rfl q) ?_
            show Rch p ev below _ T110 (mkF m 90 #[.val (.ref so), .val (.int (Int32.ofNat jj))] [(.int ((Int32.ofNat fcl) + (1 : Int32))), (.ref fs)])
            rw [show (Int32.ofNat fcl + (1 : Int32)) = (Int32.ofNat (fcl + 1)) from (own_add1_N (by omega))]
            show Rch p ev below _ T110 (mkF m 90 #[.val (.ref so), .val (.int (Int32.ofNat jj))] [(.int (Int32.ofNat (fcl + 1))), (.ref fs)])
            refine Rch.go (fun _ q => XS.aloadN X110.here hx rfl (hb hby dfi_90) rfl rfl q) ?_
            show Rch p ev below _ T110 (mkF m 91 #[.val (.ref so), .val (.int (Int32.ofNat jj))] [(.ref so), (.int (Int32.ofNat (fcl + 1))), (.ref fs)])
            obtain ⟨T111, X111, e111, st111⟩ := getF X110 hx hZ hown (host := "") (Or.inl (hw _ (List.mem_of_getElem? (i := 17) rfl))) Via.refl e110 (WW108.2.1 5 _ _ _ rfl rfl) (g := (mkF m 91 #[.val (.ref so), .val (.int (Int32.ofNat jj))] [(.ref so), (.int (Int32.ofNat (fcl + 1))), (.ref fs)])) rfl rfl (hb hby dfi_91)
            refine Rch.go st111 ?_
            show Rch p ev below _ T111 (mkF m 94 #[.val (.ref so), .val (.int (Int32.ofNat jj))] [(.ref fs), (.int (Int32.ofNat (fcl + 1))), (.ref fs)])
            refine Rch.go (fun _ q => XS.aloadN X111.here hx rfl (hb hby dfi_94) rfl rfl q) ?_
            show Rch p ev below _ T111 (mkF m 95 #[.val (.ref so), .val (.int (Int32.ofNat jj))] [(.ref so), (.ref fs), (.int (Int32.ofNat (fcl + 1))), (.ref fs)])
            obtain ⟨T112, X112, e112, st112⟩ := getF X111 hx hZ hown (host := "") (Or.inl (hw _ (List.mem_of_getElem? (i := 74) rfl))) Via.refl e111 (WW108.2.1 6 _ _ _ rfl rfl) (g := (mkF m 95 #[.val (.ref so), .val (.int (Int32.ofNat jj))] [(.ref so), (.ref fs), (.int (Int32.ofNat (fcl + 1))), (.ref fs)])) rfl rfl (hb hby dfi_95)
            refine Rch.go st112 ?_
            show Rch p ev below _ T112 (mkF m 98 #[.val (.ref so), .val (.int (Int32.ofNat jj))] [(.int (Int32.ofNat fcl)), (.ref fs), (.int (Int32.ofNat (fcl + 1))), (.ref fs)])
            refine Rch.go (fun _ q => ldJ X112 hx hZ e112 WW108.2.2.2.2.1 (j := (Int32.ofNat fcl)) (v := (.long (own_L (own_F A.toInt B.toInt e fcl)))) (own_in_N (by omega) (by omega)) (by rw [own_nat_N (by omega)]; exact hvals fcl (Nat.le_refl _)) (g := (mkF m 98 #[.val (.ref so), .val (.int (Int32.ofNat jj))] [(.int (Int32.ofNat fcl)), (.ref fs), (.int (Int32.ofNat (fcl + 1))), (.ref fs)])) rfl rfl (hb hby dfi_98) _ q) ?_
            show Rch p ev below _ T112 (mkF m 99 #[.val (.ref so), .val (.int (Int32.ofNat jj))] [(.long (own_L (own_F A.toInt B.toInt e fcl))), (.int (Int32.ofNat (fcl + 1))), (.ref fs)])
            refine Rch.go (fun _ q => XS.aloadN X112.here hx rfl (hb hby dfi_99) rfl rfl q) ?_
            show Rch p ev below _ T112 (mkF m 100 #[.val (.ref so), .val (.int (Int32.ofNat jj))] [(.ref so), (.long (own_L (own_F A.toInt B.toInt e fcl))), (.int (Int32.ofNat (fcl + 1))), (.ref fs)])
            obtain ⟨T113, X113, e113, st113⟩ := getF X112 hx hZ hown (host := "") (Or.inl (hw _ (List.mem_of_getElem? (i := 22) rfl))) Via.refl e112 (WW108.2.1 0 _ _ _ rfl rfl) (g := (mkF m 100 #[.val (.ref so), .val (.int (Int32.ofNat jj))] [(.ref so), (.long (own_L (own_F A.toInt B.toInt e fcl))), (.int (Int32.ofNat (fcl + 1))), (.ref fs)])) rfl rfl (hb hby dfi_100)
            refine Rch.go st113 ?_
            show Rch p ev below _ T113 (mkF m 103 #[.val (.ref so), .val (.int (Int32.ofNat jj))] [(.ref rs), (.long (own_L (own_F A.toInt B.toInt e fcl))), (.int (Int32.ofNat (fcl + 1))), (.ref fs)])
            refine Rch.go (fun _ q => XS.aloadN X113.here hx rfl (hb hby dfi_103) rfl rfl q) ?_
            show Rch p ev below _ T113 (mkF m 104 #[.val (.ref so), .val (.int (Int32.ofNat jj))] [(.ref so), (.ref rs), (.long (own_L (own_F A.toInt B.toInt e fcl))), (.int (Int32.ofNat (fcl + 1))), (.ref fs)])
            obtain ⟨T114, X114, e114, st114⟩ := getF X113 hx hZ hown (host := "") (Or.inl (hw _ (List.mem_of_getElem? (i := 85) rfl))) Via.refl e113 (WW108.2.1 7 _ _ _ rfl rfl) (g := (mkF m 104 #[.val (.ref so), .val (.int (Int32.ofNat jj))] [(.ref so), (.ref rs), (.long (own_L (own_F A.toInt B.toInt e fcl))), (.int (Int32.ofNat (fcl + 1))), (.ref fs)])) rfl rfl (hb hby dfi_104)
            refine Rch.go st114 ?_
            show Rch p ev below _ T114 (mkF m 107 #[.val (.ref so), .val (.int (Int32.ofNat jj))] [(.int (1 : Int32)), (.ref rs), (.long (own_L (own_F A.toInt B.toInt e fcl))), (.int (Int32.ofNat (fcl + 1))), (.ref fs)])
            refine Rch.go (fun _ q => ldI X114 hx hZ e114 WW108.2.2.1 (j := (1 : Int32)) (v := (.int B)) (by decide) (r1 hr2) (g := (mkF m 107 #[.val (.ref so), .val (.int (Int32.ofNat jj))] [(.int (1 : Int32)), (.ref rs), (.long (own_L (own_F A.toInt B.toInt e fcl))), (.int (Int32.ofNat (fcl + 1))), (.ref fs)])) rfl rfl (hb hby dfi_107) _ q) ?_
            show Rch p ev below _ T114 (mkF m 108 #[.val (.ref so), .val (.int (Int32.ofNat jj))] [(.int B), (.long (own_L (own_F A.toInt B.toInt e fcl))), (.int (Int32.ofNat (fcl + 1))), (.ref fs)])
            refine Rch.go (fun _ q => XS.i2l X114.here hx rfl (hb hby dfi_108) rfl q) ?_
            show Rch p ev below _ T114 (mkF m 109 #[.val (.ref so), .val (.int (Int32.ofNat jj))] [(.long (B.toInt64)), (.long (own_L (own_F A.toInt B.toInt e fcl))), (.int (Int32.ofNat (fcl + 1))), (.ref fs)])
            refine Rch.go (fun _ q => XS.ladd X114.here hx rfl (hb hby dfi_109) rfl q) ?_
            show Rch p ev below _ T114 (mkF m 110 #[.val (.ref so), .val (.int (Int32.ofNat jj))] [(.long ((own_L (own_F A.toInt B.toInt e fcl)) + (B.toInt64))), (.int (Int32.ofNat (fcl + 1))), (.ref fs)])
            have hstep : (own_F A.toInt B.toInt e (fcl + 1)) = (own_F A.toInt B.toInt e fcl) + B.toInt := by rw [own_F]; rw [if_neg (by omega)]
            rw [show (own_L (own_F A.toInt B.toInt e fcl) + (B.toInt64)) = (own_L (own_F A.toInt B.toInt e (fcl + 1))) from (by rw [own_L_i2l, own_L_add, hstep])]
            show Rch p ev below _ T114 (mkF m 110 #[.val (.ref so), .val (.int (Int32.ofNat jj))] [(.long (own_L (own_F A.toInt B.toInt e (fcl + 1)))), (.int (Int32.ofNat (fcl + 1))), (.ref fs)])
            obtain ⟨T115, h115, X115, e115, W115, V115, st115⟩ := sdJ X114 hx hZ e114 WW108.2.2.2.2.1 (j := (Int32.ofNat (fcl + 1))) (own_in_N (by omega) (by omega)) (fcl + 1) (own_nat_N (by omega)) (by rw [hc3]; omega) (g := (mkF m 110 #[.val (.ref so), .val (.int (Int32.ofNat jj))] [(.long (own_L (own_F A.toInt B.toInt e (fcl + 1)))), (.int (Int32.ofNat (fcl + 1))), (.ref fs)])) rfl rfl (hb hby dfi_110)
            have N115 := Fr.snoc X115 N108 WW108.2.2.2.2.2.2.1.2.2.2.1
            have WW115 : own_W Z h115 n0 so rs rt fs bs kr kt kf kb rl tl (fll.set (fcl + 1) (.long (own_L (own_F A.toInt B.toInt e (fcl + 1))))) bl zl [(.ref rs), (.ref rt), (.int rc), (.int (Int32.ofNat N)), (.long sm), (.ref fs), (.int (Int32.ofNat fcl)), (.int (1 : Int32)), (.ref bs), (.int (Int32.ofNat bc)), (.int br), (.int los), (.int lo), (.long gb), (.long ga)] := own_W_fs WW108 W115 V115
            refine Rch.go st115 ?_
            show Rch p ev below _ T115 (mkF m 111 #[.val (.ref so), .val (.int (Int32.ofNat jj))] [])
            refine Rch.go (fun _ q => XS.aloadN X115.here hx rfl (hb hby dfi_111) rfl rfl q) ?_
            show Rch p ev below _ T115 (mkF m 112 #[.val (.ref so), .val (.int (Int32.ofNat jj))] [(.ref so)])
            refine Rch.go (fun _ q => XS.dup X115.here hx rfl (hb hby dfi_112) rfl rfl q) ?_
            show Rch p ev below _ T115 (mkF m 113 #[.val (.ref so), .val (.int (Int32.ofNat jj))] [(.ref so), (.ref so)])
            obtain ⟨T116, X116, e116, st116⟩ := getF X115 hx hZ hown (host := "") (Or.inl (hw _ (List.mem_of_getElem? (i := 74) rfl))) Via.refl e115 (WW115.2.1 6 _ _ _ rfl rfl) (g := (mkF m 113 #[.val (.ref so), .val (.int (Int32.ofNat jj))] [(.ref so), (.ref so)])) rfl rfl (hb hby dfi_113)
            refine Rch.go st116 ?_
            show Rch p ev below _ T116 (mkF m 116 #[.val (.ref so), .val (.int (Int32.ofNat jj))] [(.int (Int32.ofNat fcl)), (.ref so)])
            refine Rch.go (fun _ q => XS.iconst X116.here hx rfl (hb hby dfi_116) q) ?_
            show Rch p ev below _ T116 (mkF m 117 #[.val (.ref so), .val (.int (Int32.ofNat jj))] [(.int (1 : Int32)), (.int (Int32.ofNat fcl)), (.ref so)])
            refine Rch.go (fun _ q => XS.iadd X116.here hx rfl (hb hby dfi_117) rfl q) ?_
            show Rch p ev below _ T116 (mkF m 118 #[.val (.ref so), .val (.int (Int32.ofNat jj))] [(.int ((Int32.ofNat fcl) + (1 : Int32))), (.ref so)])
            rw [show (Int32.ofNat fcl + (1 : Int32)) = (Int32.ofNat (fcl + 1)) from (own_add1_N (by omega))]
            show Rch p ev below _ T116 (mkF m 118 #[.val (.ref so), .val (.int (Int32.ofNat jj))] [(.int (Int32.ofNat (fcl + 1))), (.ref so)])
            obtain ⟨T117, h117, X117, e117, W117, st117⟩ := putF X116 hx hZ hown (host := "") (Or.inl (hw _ (List.mem_of_getElem? (i := 74) rfl))) Via.refl e116 (WW115.2.1 6 _ _ _ rfl rfl) WW115.1 (Or.inl (hw _ (List.mem_of_getElem? (i := 75) rfl))) (hw _ (List.mem_of_getElem? (i := 8) rfl)) (ty := .int) (by decide) rfl rfl (g := (mkF m 118 #[.val (.ref so), .val (.int (Int32.ofNat jj))] [(.int (Int32.ofNat (fcl + 1))), (.ref so)])) rfl rfl (hb hby dfi_118)
            have N117 := Fr.snoc X117 N115 WW115.2.2.2.2.2.2.1.1
            have Z117 : n0 ≤ h117.size := by rw [W117.size]; exact WW115.2.2.2.2.2.2.1.2.2.2.2.2
            refine Rch.go st117 ?_
            show Rch p ev below _ T117 (mkF m 121 #[.val (.ref so), .val (.int (Int32.ofNat jj))] [])
            have WW117 : own_W Z h117 n0 so rs rt fs bs kr kt kf kb rl tl (fll.set (fcl + 1) (.long (own_L (own_F A.toInt B.toInt e (fcl + 1))))) bl zl [(.ref rs), (.ref rt), (.int rc), (.int (Int32.ofNat N)), (.long sm), (.ref fs), (.int (Int32.ofNat (fcl + 1))), (.int (1 : Int32)), (.ref bs), (.int (Int32.ofNat bc)), (.int br), (.int los), (.int lo), (.long gb), (.long ga)] := own_W_put hw WW115 6 rfl W117
            refine Rch.go (fun _ q => XS.goto X117.here hx rfl (pc0 := 121) (pc' := 47) rfl (hb hby dfi_121) (by decide) (by decide) q) ?_
            show Rch p ev below _ T117 (mkF m 47 #[.val (.ref so), .val (.int (Int32.ofNat jj))] [])
            exact ih _ _ _ (fcl + 1) (1 : Int32) _ X117 e117 N117 WW117 ⟨by omega, Or.inr ⟨rfl, by omega⟩, by rw [List.length_set]; exact hc3, fun i hi => by
              rw [own_getD_set _ _ _ _ _ (by rw [hc3]; omega)]
              by_cases q : i = fcl + 1
              · rw [if_pos q, q]
              · rw [if_neg q]; exact hvals i (by omega)⟩ (by omega)
          · skip
            refine Rch.go (fun _ q => XS.icmpYes X106.here hx rfl (pc0 := 67) (pc' := 80) rfl (hb hby dfi_67) rfl (feq ((mt (own_eq_N (a := fcl) (b := e) (by omega) (by omega)).mp hc67))).2 (by decide) (by decide) q) ?_
            show Rch p ev below _ T106 (mkF m 80 #[.val (.ref so), .val (.int (Int32.ofNat jj))] [])
            refine Rch.go (fun _ q => XS.aloadN X106.here hx rfl (hb hby dfi_80) rfl rfl q) ?_
            show Rch p ev below _ T106 (mkF m 81 #[.val (.ref so), .val (.int (Int32.ofNat jj))] [(.ref so)])
            obtain ⟨T118, X118, e118, st118⟩ := getF X106 hx hZ hown (host := "") (Or.inl (hw _ (List.mem_of_getElem? (i := 17) rfl))) Via.refl e106 (Wl.2.1 5 _ _ _ rfl rfl) (g := (mkF m 81 #[.val (.ref so), .val (.int (Int32.ofNat jj))] [(.ref so)])) rfl rfl (hb hby dfi_81)
            refine Rch.go st118 ?_
            show Rch p ev below _ T118 (mkF m 84 #[.val (.ref so), .val (.int (Int32.ofNat jj))] [(.ref fs)])
            refine Rch.go (fun _ q => XS.aloadN X118.here hx rfl (hb hby dfi_84) rfl rfl q) ?_
            show Rch p ev below _ T118 (mkF m 85 #[.val (.ref so), .val (.int (Int32.ofNat jj))] [(.ref so), (.ref fs)])
            obtain ⟨T119, X119, e119, st119⟩ := getF X118 hx hZ hown (host := "") (Or.inl (hw _ (List.mem_of_getElem? (i := 74) rfl))) Via.refl e118 (Wl.2.1 6 _ _ _ rfl rfl) (g := (mkF m 85 #[.val (.ref so), .val (.int (Int32.ofNat jj))] [(.ref so), (.ref fs)])) rfl rfl (hb hby dfi_85)
            refine Rch.go st119 ?_
            show Rch p ev below _ T119 (mkF m 88 #[.val (.ref so), .val (.int (Int32.ofNat jj))] [(.int (Int32.ofNat fcl)), (.ref fs)])
            refine Rch.go (fun _ q => XS.iconst X119.here hx rfl (hb hby dfi_88) q) ?_
            show Rch p ev below _ T119 (mkF m 89 #[.val (.ref so), .val (.int (Int32.ofNat jj))] [(.int (1 : Int32)), (.int (Int32.ofNat fcl)), (.ref fs)])
            refine Rch.go (fun _ q => XS.iadd X119.here hx rfl (hb hby dfi_89) rfl q) ?_
            show Rch p ev below _ T119 (mkF m 90 #[.val (.ref so), .val (.int (Int32.ofNat jj))] [(.int ((Int32.ofNat fcl) + (1 : Int32))), (.ref fs)])
            rw [show (Int32.ofNat fcl + (1 : Int32)) = (Int32.ofNat (fcl + 1)) from (own_add1_N (by omega))]
            show Rch p ev below _ T119 (mkF m 90 #[.val (.ref so), .val (.int (Int32.ofNat jj))] [(.int (Int32.ofNat (fcl + 1))), (.ref fs)])
            refine Rch.go (fun _ q => XS.aloadN X119.here hx rfl (hb hby dfi_90) rfl rfl q) ?_
            show Rch p ev below _ T119 (mkF m 91 #[.val (.ref so), .val (.int (Int32.ofNat jj))] [(.ref so), (.int (Int32.ofNat (fcl + 1))), (.ref fs)])
            obtain ⟨T120, X120, e120, st120⟩ := getF X119 hx hZ hown (host := "") (Or.inl (hw _ (List.mem_of_getElem? (i := 17) rfl))) Via.refl e119 (Wl.2.1 5 _ _ _ rfl rfl) (g := (mkF m 91 #[.val (.ref so), .val (.int (Int32.ofNat jj))] [(.ref so), (.int (Int32.ofNat (fcl + 1))), (.ref fs)])) rfl rfl (hb hby dfi_91)
            refine Rch.go st120 ?_
            show Rch p ev below _ T120 (mkF m 94 #[.val (.ref so), .val (.int (Int32.ofNat jj))] [(.ref fs), (.int (Int32.ofNat (fcl + 1))), (.ref fs)])
            refine Rch.go (fun _ q => XS.aloadN X120.here hx rfl (hb hby dfi_94) rfl rfl q) ?_
            show Rch p ev below _ T120 (mkF m 95 #[.val (.ref so), .val (.int (Int32.ofNat jj))] [(.ref so), (.ref fs), (.int (Int32.ofNat (fcl + 1))), (.ref fs)])
            obtain ⟨T121, X121, e121, st121⟩ := getF X120 hx hZ hown (host := "") (Or.inl (hw _ (List.mem_of_getElem? (i := 74) rfl))) Via.refl e120 (Wl.2.1 6 _ _ _ rfl rfl) (g := (mkF m 95 #[.val (.ref so), .val (.int (Int32.ofNat jj))] [(.ref so), (.ref fs), (.int (Int32.ofNat (fcl + 1))), (.ref fs)])) rfl rfl (hb hby dfi_95)
            refine Rch.go st121 ?_
            show Rch p ev below _ T121 (mkF m 98 #[.val (.ref so), .val (.int (Int32.ofNat jj))] [(.int (Int32.ofNat fcl)), (.ref fs), (.int (Int32.ofNat (fcl + 1))), (.ref fs)])
            refine Rch.go (fun _ q => ldJ X121 hx hZ e121 Wl.2.2.2.2.1 (j := (Int32.ofNat fcl)) (v := (.long (own_L (own_F A.toInt B.toInt e fcl)))) (own_in_N (by omega) (by omega)) (by rw [own_nat_N (by omega)]; exact hvals fcl (Nat.le_refl _)) (g := (mkF m 98 #[.val (.ref so), .val (.int (Int32.ofNat jj))] [(.int (Int32.ofNat fcl)), (.ref fs), (.int (Int32.ofNat (fcl + 1))), (.ref fs)])) rfl rfl (hb hby dfi_98) _ q) ?_
            show Rch p ev below _ T121 (mkF m 99 #[.val (.ref so), .val (.int (Int32.ofNat jj))] [(.long (own_L (own_F A.toInt B.toInt e fcl))), (.int (Int32.ofNat (fcl + 1))), (.ref fs)])
            refine Rch.go (fun _ q => XS.aloadN X121.here hx rfl (hb hby dfi_99) rfl rfl q) ?_
            show Rch p ev below _ T121 (mkF m 100 #[.val (.ref so), .val (.int (Int32.ofNat jj))] [(.ref so), (.long (own_L (own_F A.toInt B.toInt e fcl))), (.int (Int32.ofNat (fcl + 1))), (.ref fs)])
            obtain ⟨T122, X122, e122, st122⟩ := getF X121 hx hZ hown (host := "") (Or.inl (hw _ (List.mem_of_getElem? (i := 22) rfl))) Via.refl e121 (Wl.2.1 0 _ _ _ rfl rfl) (g := (mkF m 100 #[.val (.ref so), .val (.int (Int32.ofNat jj))] [(.ref so), (.long (own_L (own_F A.toInt B.toInt e fcl))), (.int (Int32.ofNat (fcl + 1))), (.ref fs)])) rfl rfl (hb hby dfi_100)
            refine Rch.go st122 ?_
            show Rch p ev below _ T122 (mkF m 103 #[.val (.ref so), .val (.int (Int32.ofNat jj))] [(.ref rs), (.long (own_L (own_F A.toInt B.toInt e fcl))), (.int (Int32.ofNat (fcl + 1))), (.ref fs)])
            refine Rch.go (fun _ q => XS.aloadN X122.here hx rfl (hb hby dfi_103) rfl rfl q) ?_
            show Rch p ev below _ T122 (mkF m 104 #[.val (.ref so), .val (.int (Int32.ofNat jj))] [(.ref so), (.ref rs), (.long (own_L (own_F A.toInt B.toInt e fcl))), (.int (Int32.ofNat (fcl + 1))), (.ref fs)])
            obtain ⟨T123, X123, e123, st123⟩ := getF X122 hx hZ hown (host := "") (Or.inl (hw _ (List.mem_of_getElem? (i := 85) rfl))) Via.refl e122 (Wl.2.1 7 _ _ _ rfl rfl) (g := (mkF m 104 #[.val (.ref so), .val (.int (Int32.ofNat jj))] [(.ref so), (.ref rs), (.long (own_L (own_F A.toInt B.toInt e fcl))), (.int (Int32.ofNat (fcl + 1))), (.ref fs)])) rfl rfl (hb hby dfi_104)
            refine Rch.go st123 ?_
            show Rch p ev below _ T123 (mkF m 107 #[.val (.ref so), .val (.int (Int32.ofNat jj))] [(.int (0 : Int32)), (.ref rs), (.long (own_L (own_F A.toInt B.toInt e fcl))), (.int (Int32.ofNat (fcl + 1))), (.ref fs)])
            refine Rch.go (fun _ q => ldI X123 hx hZ e123 Wl.2.2.1 (j := (0 : Int32)) (v := (.int A)) (by decide) r0 (g := (mkF m 107 #[.val (.ref so), .val (.int (Int32.ofNat jj))] [(.int (0 : Int32)), (.ref rs), (.long (own_L (own_F A.toInt B.toInt e fcl))), (.int (Int32.ofNat (fcl + 1))), (.ref fs)])) rfl rfl (hb hby dfi_107) _ q) ?_
            show Rch p ev below _ T123 (mkF m 108 #[.val (.ref so), .val (.int (Int32.ofNat jj))] [(.int A), (.long (own_L (own_F A.toInt B.toInt e fcl))), (.int (Int32.ofNat (fcl + 1))), (.ref fs)])
            refine Rch.go (fun _ q => XS.i2l X123.here hx rfl (hb hby dfi_108) rfl q) ?_
            show Rch p ev below _ T123 (mkF m 109 #[.val (.ref so), .val (.int (Int32.ofNat jj))] [(.long (A.toInt64)), (.long (own_L (own_F A.toInt B.toInt e fcl))), (.int (Int32.ofNat (fcl + 1))), (.ref fs)])
            refine Rch.go (fun _ q => XS.ladd X123.here hx rfl (hb hby dfi_109) rfl q) ?_
            show Rch p ev below _ T123 (mkF m 110 #[.val (.ref so), .val (.int (Int32.ofNat jj))] [(.long ((own_L (own_F A.toInt B.toInt e fcl)) + (A.toInt64))), (.int (Int32.ofNat (fcl + 1))), (.ref fs)])
            have hstep : (own_F A.toInt B.toInt e (fcl + 1)) = (own_F A.toInt B.toInt e fcl) + A.toInt := by rw [own_F]; rw [if_pos (by omega)]
            rw [show (own_L (own_F A.toInt B.toInt e fcl) + (A.toInt64)) = (own_L (own_F A.toInt B.toInt e (fcl + 1))) from (by rw [own_L_i2l, own_L_add, hstep])]
            show Rch p ev below _ T123 (mkF m 110 #[.val (.ref so), .val (.int (Int32.ofNat jj))] [(.long (own_L (own_F A.toInt B.toInt e (fcl + 1)))), (.int (Int32.ofNat (fcl + 1))), (.ref fs)])
            obtain ⟨T124, h124, X124, e124, W124, V124, st124⟩ := sdJ X123 hx hZ e123 Wl.2.2.2.2.1 (j := (Int32.ofNat (fcl + 1))) (own_in_N (by omega) (by omega)) (fcl + 1) (own_nat_N (by omega)) (by rw [hc3]; omega) (g := (mkF m 110 #[.val (.ref so), .val (.int (Int32.ofNat jj))] [(.long (own_L (own_F A.toInt B.toInt e (fcl + 1)))), (.int (Int32.ofNat (fcl + 1))), (.ref fs)])) rfl rfl (hb hby dfi_110)
            have N124 := Fr.snoc X124 N106 Wl.2.2.2.2.2.2.1.2.2.2.1
            have WW124 : own_W Z h124 n0 so rs rt fs bs kr kt kf kb rl tl (fll.set (fcl + 1) (.long (own_L (own_F A.toInt B.toInt e (fcl + 1))))) bl zl [(.ref rs), (.ref rt), (.int rc), (.int (Int32.ofNat N)), (.long sm), (.ref fs), (.int (Int32.ofNat fcl)), (.int (0 : Int32)), (.ref bs), (.int (Int32.ofNat bc)), (.int br), (.int los), (.int lo), (.long gb), (.long ga)] := own_W_fs Wl W124 V124
            refine Rch.go st124 ?_
            show Rch p ev below _ T124 (mkF m 111 #[.val (.ref so), .val (.int (Int32.ofNat jj))] [])
            refine Rch.go (fun _ q => XS.aloadN X124.here hx rfl (hb hby dfi_111) rfl rfl q) ?_
            show Rch p ev below _ T124 (mkF m 112 #[.val (.ref so), .val (.int (Int32.ofNat jj))] [(.ref so)])
            refine Rch.go (fun _ q => XS.dup X124.here hx rfl (hb hby dfi_112) rfl rfl q) ?_
            show Rch p ev below _ T124 (mkF m 113 #[.val (.ref so), .val (.int (Int32.ofNat jj))] [(.ref so), (.ref so)])
            obtain ⟨T125, X125, e125, st125⟩ := getF X124 hx hZ hown (host := "") (Or.inl (hw _ (List.mem_of_getElem? (i := 74) rfl))) Via.refl e124 (WW124.2.1 6 _ _ _ rfl rfl) (g := (mkF m 113 #[.val (.ref so), .val (.int (Int32.ofNat jj))] [(.ref so), (.ref so)])) rfl rfl (hb hby dfi_113)
            refine Rch.go st125 ?_
            show Rch p ev below _ T125 (mkF m 116 #[.val (.ref so), .val (.int (Int32.ofNat jj))] [(.int (Int32.ofNat fcl)), (.ref so)])
            refine Rch.go (fun _ q => XS.iconst X125.here hx rfl (hb hby dfi_116) q) ?_
            show Rch p ev below _ T125 (mkF m 117 #[.val (.ref so), .val (.int (Int32.ofNat jj))] [(.int (1 : Int32)), (.int (Int32.ofNat fcl)), (.ref so)])
            refine Rch.go (fun _ q => XS.iadd X125.here hx rfl (hb hby dfi_117) rfl q) ?_
            show Rch p ev below _ T125 (mkF m 118 #[.val (.ref so), .val (.int (Int32.ofNat jj))] [(.int ((Int32.ofNat fcl) + (1 : Int32))), (.ref so)])
            rw [show (Int32.ofNat fcl + (1 : Int32)) = (Int32.ofNat (fcl + 1)) from (own_add1_N (by omega))]
            show Rch p ev below _ T125 (mkF m 118 #[.val (.ref so), .val (.int (Int32.ofNat jj))] [(.int (Int32.ofNat (fcl + 1))), (.ref so)])
            obtain ⟨T126, h126, X126, e126, W126, st126⟩ := putF X125 hx hZ hown (host := "") (Or.inl (hw _ (List.mem_of_getElem? (i := 74) rfl))) Via.refl e125 (WW124.2.1 6 _ _ _ rfl rfl) WW124.1 (Or.inl (hw _ (List.mem_of_getElem? (i := 75) rfl))) (hw _ (List.mem_of_getElem? (i := 8) rfl)) (ty := .int) (by decide) rfl rfl (g := (mkF m 118 #[.val (.ref so), .val (.int (Int32.ofNat jj))] [(.int (Int32.ofNat (fcl + 1))), (.ref so)])) rfl rfl (hb hby dfi_118)
            have N126 := Fr.snoc X126 N124 WW124.2.2.2.2.2.2.1.1
            have Z126 : n0 ≤ h126.size := by rw [W126.size]; exact WW124.2.2.2.2.2.2.1.2.2.2.2.2
            refine Rch.go st126 ?_
            show Rch p ev below _ T126 (mkF m 121 #[.val (.ref so), .val (.int (Int32.ofNat jj))] [])
            have WW126 : own_W Z h126 n0 so rs rt fs bs kr kt kf kb rl tl (fll.set (fcl + 1) (.long (own_L (own_F A.toInt B.toInt e (fcl + 1))))) bl zl [(.ref rs), (.ref rt), (.int rc), (.int (Int32.ofNat N)), (.long sm), (.ref fs), (.int (Int32.ofNat (fcl + 1))), (.int (0 : Int32)), (.ref bs), (.int (Int32.ofNat bc)), (.int br), (.int los), (.int lo), (.long gb), (.long ga)] := own_W_put hw WW124 6 rfl W126
            refine Rch.go (fun _ q => XS.goto X126.here hx rfl (pc0 := 121) (pc' := 47) rfl (hb hby dfi_121) (by decide) (by decide) q) ?_
            show Rch p ev below _ T126 (mkF m 47 #[.val (.ref so), .val (.int (Int32.ofNat jj))] [])
            exact ih _ _ _ (fcl + 1) (0 : Int32) _ X126 e126 N126 WW126 ⟨by omega, Or.inl ⟨rfl, by omega⟩, by rw [List.length_set]; exact hc3, fun i hi => by
              rw [own_getD_set _ _ _ _ _ (by rw [hc3]; omega)]
              by_cases q : i = fcl + 1
              · rw [if_pos q, q]
              · rw [if_neg q]; exact hvals i (by omega)⟩ (by omega)
        · subst hfr
          show Rch p ev below _ T103 (mkF m 55 #[.val (.ref so), .val (.int (Int32.ofNat jj))] [])
          refine Rch.go (fun _ q => XS.aloadN X103.here hx rfl (hb hby dfi_55) rfl rfl q) ?_
          show Rch p ev below _ T103 (mkF m 56 #[.val (.ref so), .val (.int (Int32.ofNat jj))] [(.ref so)])
          obtain ⟨T127, X127, e127, st127⟩ := getF X103 hx hZ hown (host := "") (Or.inl (hw _ (List.mem_of_getElem? (i := 74) rfl))) Via.refl e103 (Wl.2.1 6 _ _ _ rfl rfl) (g := (mkF m 56 #[.val (.ref so), .val (.int (Int32.ofNat jj))] [(.ref so)])) rfl rfl (hb hby dfi_56)
          refine Rch.go st127 ?_
          show Rch p ev below _ T127 (mkF m 59 #[.val (.ref so), .val (.int (Int32.ofNat jj))] [(.int (Int32.ofNat fcl))])
          refine Rch.go (fun _ q => XS.aloadN X127.here hx rfl (hb hby dfi_59) rfl rfl q) ?_
          show Rch p ev below _ T127 (mkF m 60 #[.val (.ref so), .val (.int (Int32.ofNat jj))] [(.ref so), (.int (Int32.ofNat fcl))])
          refine Rch.go (fun _ q => XS.aloadN X127.here hx rfl (hb hby dfi_60) rfl rfl q) ?_
          show Rch p ev below _ T127 (mkF m 61 #[.val (.ref so), .val (.int (Int32.ofNat jj))] [(.ref so), (.ref so), (.int (Int32.ofNat fcl))])
          obtain ⟨T128, X128, e128, st128⟩ := getF X127 hx hZ hown (host := "") (Or.inl (hw _ (List.mem_of_getElem? (i := 85) rfl))) Via.refl e127 (Wl.2.1 7 _ _ _ rfl rfl) (g := (mkF m 61 #[.val (.ref so), .val (.int (Int32.ofNat jj))] [(.ref so), (.ref so), (.int (Int32.ofNat fcl))])) rfl rfl (hb hby dfi_61)
          refine Rch.go st128 ?_
          show Rch p ev below _ T128 (mkF m 64 #[.val (.ref so), .val (.int (Int32.ofNat jj))] [(.int (1 : Int32)), (.ref so), (.int (Int32.ofNat fcl))])
          have hr2 : rc = 2 := by rcases hrc with ⟨q, q2⟩ | ⟨q, q2⟩; exact absurd hfe (by omega); exact q
          obtain ⟨cq129, q129, q129'⟩ := Exa.cell Wl.1
          obtain ⟨_, _, ⟨T129, L129, k129, n129⟩, -, X129, ⟨Lc129, hQ129, l129, y129, z129⟩, st129⟩ := X128.privateBack hx (y := (⟨"com/example/binflow/binflow/solve/SubsetSums", "end", "(I)I"⟩ : MethodName)) hown (mvT hZ (hw _ (List.mem_of_getElem? (i := 115) rfl))) (mvT hZ (hw _ (List.mem_of_getElem? (i := 116) rfl))) (mvT hZ (own_sel (by decide) (hw _ (List.mem_of_getElem? (i := 8) rfl)) (hw _ (List.mem_of_getElem? (i := 117) rfl)) (hw _ (List.mem_of_getElem? (i := 116) rfl)))) (Cond.privateMethod_at (mvP hZ (hw _ (List.mem_of_getElem? (i := 117) rfl)) (args := #[]))) (mvT hZ (hw _ (List.mem_of_getElem? (i := 118) rfl))) (by decide) (backOf (W := 1) (rmen1 l Z a0 hw [] so rs rt fs bs kr kt kf kb rl tl fll bl zl (1 : Int32) br los sm gb fcl bc A B e N rc lo ga hl n0 Wl.2.2.2.2.2.2.1.2.2.2.2.2 Wl Is hr2) hZ (hw _ (List.mem_of_getElem? (i := 118) rfl)) (hw _ (List.mem_of_getElem? (i := 9) rfl)) (by decide) (by decide)) (g := (mkF m 64 #[.val (.ref so), .val (.int (Int32.ofNat jj))] [(.int (1 : Int32)), (.ref so), (.int (Int32.ofNat fcl))])) rfl (by rw [hml]; rfl) (Steps.refl _) (a := so) (by rw [e128]; exact q129) q129' (argsL := [(.int (1 : Int32))]) (rest := [(.int (Int32.ofNat fcl))]) (lenOf own_pd2 rfl) rfl (by show 2 * 0 + _ ≤ _; exact Nat.le_of_eq rfl) (hb hby dfi_64) (fun _ _ => ⟨rfl, e128, (by decide : 0 + 0 ≤ _), (by decide : 0 + 0 ≤ _)⟩)
          dsimp only [Pt.U, Pt.locs, Pt.cells, Pt.slots] at X129 l129 y129 z129 st129 hQ129
          subst l129 y129 z129
          obtain ⟨rfl, Nc, ec⟩ := hQ129
          refine Rch.jump st129 ?_
          show Rch p ev below _ T129 (mkF m 67 #[.val (.ref so), .val (.int (Int32.ofNat jj))] [(.int (Int32.ofNat N)), (.int (Int32.ofNat fcl))])
          have N129 := Fr.app Nl Nc
          have e129 := ec
          refine Rch.go (fun _ q => XS.icmpYes X129.here hx rfl (pc0 := 67) (pc' := 80) rfl (hb hby dfi_67) rfl (feq (mt (own_eq_N (a := fcl) (b := N) (by omega) (by omega)).mp (by omega))).2 (by decide) (by decide) q) ?_
          show Rch p ev below _ T129 (mkF m 80 #[.val (.ref so), .val (.int (Int32.ofNat jj))] [])
          refine Rch.go (fun _ q => XS.aloadN X129.here hx rfl (hb hby dfi_80) rfl rfl q) ?_
          show Rch p ev below _ T129 (mkF m 81 #[.val (.ref so), .val (.int (Int32.ofNat jj))] [(.ref so)])
          obtain ⟨T130, X130, e130, st130⟩ := getF X129 hx hZ hown (host := "") (Or.inl (hw _ (List.mem_of_getElem? (i := 17) rfl))) Via.refl e129 (Wl.2.1 5 _ _ _ rfl rfl) (g := (mkF m 81 #[.val (.ref so), .val (.int (Int32.ofNat jj))] [(.ref so)])) rfl rfl (hb hby dfi_81)
          refine Rch.go st130 ?_
          show Rch p ev below _ T130 (mkF m 84 #[.val (.ref so), .val (.int (Int32.ofNat jj))] [(.ref fs)])
          refine Rch.go (fun _ q => XS.aloadN X130.here hx rfl (hb hby dfi_84) rfl rfl q) ?_
          show Rch p ev below _ T130 (mkF m 85 #[.val (.ref so), .val (.int (Int32.ofNat jj))] [(.ref so), (.ref fs)])
          obtain ⟨T131, X131, e131, st131⟩ := getF X130 hx hZ hown (host := "") (Or.inl (hw _ (List.mem_of_getElem? (i := 74) rfl))) Via.refl e130 (Wl.2.1 6 _ _ _ rfl rfl) (g := (mkF m 85 #[.val (.ref so), .val (.int (Int32.ofNat jj))] [(.ref so), (.ref fs)])) rfl rfl (hb hby dfi_85)
          refine Rch.go st131 ?_
          show Rch p ev below _ T131 (mkF m 88 #[.val (.ref so), .val (.int (Int32.ofNat jj))] [(.int (Int32.ofNat fcl)), (.ref fs)])
          refine Rch.go (fun _ q => XS.iconst X131.here hx rfl (hb hby dfi_88) q) ?_
          show Rch p ev below _ T131 (mkF m 89 #[.val (.ref so), .val (.int (Int32.ofNat jj))] [(.int (1 : Int32)), (.int (Int32.ofNat fcl)), (.ref fs)])
          refine Rch.go (fun _ q => XS.iadd X131.here hx rfl (hb hby dfi_89) rfl q) ?_
          show Rch p ev below _ T131 (mkF m 90 #[.val (.ref so), .val (.int (Int32.ofNat jj))] [(.int ((Int32.ofNat fcl) + (1 : Int32))), (.ref fs)])
          rw [show (Int32.ofNat fcl + (1 : Int32)) = (Int32.ofNat (fcl + 1)) from (own_add1_N (by omega))]
          show Rch p ev below _ T131 (mkF m 90 #[.val (.ref so), .val (.int (Int32.ofNat jj))] [(.int (Int32.ofNat (fcl + 1))), (.ref fs)])
          refine Rch.go (fun _ q => XS.aloadN X131.here hx rfl (hb hby dfi_90) rfl rfl q) ?_
          show Rch p ev below _ T131 (mkF m 91 #[.val (.ref so), .val (.int (Int32.ofNat jj))] [(.ref so), (.int (Int32.ofNat (fcl + 1))), (.ref fs)])
          obtain ⟨T132, X132, e132, st132⟩ := getF X131 hx hZ hown (host := "") (Or.inl (hw _ (List.mem_of_getElem? (i := 17) rfl))) Via.refl e131 (Wl.2.1 5 _ _ _ rfl rfl) (g := (mkF m 91 #[.val (.ref so), .val (.int (Int32.ofNat jj))] [(.ref so), (.int (Int32.ofNat (fcl + 1))), (.ref fs)])) rfl rfl (hb hby dfi_91)
          refine Rch.go st132 ?_
          show Rch p ev below _ T132 (mkF m 94 #[.val (.ref so), .val (.int (Int32.ofNat jj))] [(.ref fs), (.int (Int32.ofNat (fcl + 1))), (.ref fs)])
          refine Rch.go (fun _ q => XS.aloadN X132.here hx rfl (hb hby dfi_94) rfl rfl q) ?_
          show Rch p ev below _ T132 (mkF m 95 #[.val (.ref so), .val (.int (Int32.ofNat jj))] [(.ref so), (.ref fs), (.int (Int32.ofNat (fcl + 1))), (.ref fs)])
          obtain ⟨T133, X133, e133, st133⟩ := getF X132 hx hZ hown (host := "") (Or.inl (hw _ (List.mem_of_getElem? (i := 74) rfl))) Via.refl e132 (Wl.2.1 6 _ _ _ rfl rfl) (g := (mkF m 95 #[.val (.ref so), .val (.int (Int32.ofNat jj))] [(.ref so), (.ref fs), (.int (Int32.ofNat (fcl + 1))), (.ref fs)])) rfl rfl (hb hby dfi_95)
          refine Rch.go st133 ?_
          show Rch p ev below _ T133 (mkF m 98 #[.val (.ref so), .val (.int (Int32.ofNat jj))] [(.int (Int32.ofNat fcl)), (.ref fs), (.int (Int32.ofNat (fcl + 1))), (.ref fs)])
          refine Rch.go (fun _ q => ldJ X133 hx hZ e133 Wl.2.2.2.2.1 (j := (Int32.ofNat fcl)) (v := (.long (own_L (own_F A.toInt B.toInt e fcl)))) (own_in_N (by omega) (by omega)) (by rw [own_nat_N (by omega)]; exact hvals fcl (Nat.le_refl _)) (g := (mkF m 98 #[.val (.ref so), .val (.int (Int32.ofNat jj))] [(.int (Int32.ofNat fcl)), (.ref fs), (.int (Int32.ofNat (fcl + 1))), (.ref fs)])) rfl rfl (hb hby dfi_98) _ q) ?_
          show Rch p ev below _ T133 (mkF m 99 #[.val (.ref so), .val (.int (Int32.ofNat jj))] [(.long (own_L (own_F A.toInt B.toInt e fcl))), (.int (Int32.ofNat (fcl + 1))), (.ref fs)])
          refine Rch.go (fun _ q => XS.aloadN X133.here hx rfl (hb hby dfi_99) rfl rfl q) ?_
          show Rch p ev below _ T133 (mkF m 100 #[.val (.ref so), .val (.int (Int32.ofNat jj))] [(.ref so), (.long (own_L (own_F A.toInt B.toInt e fcl))), (.int (Int32.ofNat (fcl + 1))), (.ref fs)])
          obtain ⟨T134, X134, e134, st134⟩ := getF X133 hx hZ hown (host := "") (Or.inl (hw _ (List.mem_of_getElem? (i := 22) rfl))) Via.refl e133 (Wl.2.1 0 _ _ _ rfl rfl) (g := (mkF m 100 #[.val (.ref so), .val (.int (Int32.ofNat jj))] [(.ref so), (.long (own_L (own_F A.toInt B.toInt e fcl))), (.int (Int32.ofNat (fcl + 1))), (.ref fs)])) rfl rfl (hb hby dfi_100)
          refine Rch.go st134 ?_
          show Rch p ev below _ T134 (mkF m 103 #[.val (.ref so), .val (.int (Int32.ofNat jj))] [(.ref rs), (.long (own_L (own_F A.toInt B.toInt e fcl))), (.int (Int32.ofNat (fcl + 1))), (.ref fs)])
          refine Rch.go (fun _ q => XS.aloadN X134.here hx rfl (hb hby dfi_103) rfl rfl q) ?_
          show Rch p ev below _ T134 (mkF m 104 #[.val (.ref so), .val (.int (Int32.ofNat jj))] [(.ref so), (.ref rs), (.long (own_L (own_F A.toInt B.toInt e fcl))), (.int (Int32.ofNat (fcl + 1))), (.ref fs)])
          obtain ⟨T135, X135, e135, st135⟩ := getF X134 hx hZ hown (host := "") (Or.inl (hw _ (List.mem_of_getElem? (i := 85) rfl))) Via.refl e134 (Wl.2.1 7 _ _ _ rfl rfl) (g := (mkF m 104 #[.val (.ref so), .val (.int (Int32.ofNat jj))] [(.ref so), (.ref rs), (.long (own_L (own_F A.toInt B.toInt e fcl))), (.int (Int32.ofNat (fcl + 1))), (.ref fs)])) rfl rfl (hb hby dfi_104)
          refine Rch.go st135 ?_
          show Rch p ev below _ T135 (mkF m 107 #[.val (.ref so), .val (.int (Int32.ofNat jj))] [(.int (1 : Int32)), (.ref rs), (.long (own_L (own_F A.toInt B.toInt e fcl))), (.int (Int32.ofNat (fcl + 1))), (.ref fs)])
          refine Rch.go (fun _ q => ldI X135 hx hZ e135 Wl.2.2.1 (j := (1 : Int32)) (v := (.int B)) (by decide) (r1 hr2) (g := (mkF m 107 #[.val (.ref so), .val (.int (Int32.ofNat jj))] [(.int (1 : Int32)), (.ref rs), (.long (own_L (own_F A.toInt B.toInt e fcl))), (.int (Int32.ofNat (fcl + 1))), (.ref fs)])) rfl rfl (hb hby dfi_107) _ q) ?_
          show Rch p ev below _ T135 (mkF m 108 #[.val (.ref so), .val (.int (Int32.ofNat jj))] [(.int B), (.long (own_L (own_F A.toInt B.toInt e fcl))), (.int (Int32.ofNat (fcl + 1))), (.ref fs)])
          refine Rch.go (fun _ q => XS.i2l X135.here hx rfl (hb hby dfi_108) rfl q) ?_
          show Rch p ev below _ T135 (mkF m 109 #[.val (.ref so), .val (.int (Int32.ofNat jj))] [(.long (B.toInt64)), (.long (own_L (own_F A.toInt B.toInt e fcl))), (.int (Int32.ofNat (fcl + 1))), (.ref fs)])
          refine Rch.go (fun _ q => XS.ladd X135.here hx rfl (hb hby dfi_109) rfl q) ?_
          show Rch p ev below _ T135 (mkF m 110 #[.val (.ref so), .val (.int (Int32.ofNat jj))] [(.long ((own_L (own_F A.toInt B.toInt e fcl)) + (B.toInt64))), (.int (Int32.ofNat (fcl + 1))), (.ref fs)])
          have hstep : (own_F A.toInt B.toInt e (fcl + 1)) = (own_F A.toInt B.toInt e fcl) + B.toInt := by rw [own_F]; rw [if_neg (by omega)]
          rw [show (own_L (own_F A.toInt B.toInt e fcl) + (B.toInt64)) = (own_L (own_F A.toInt B.toInt e (fcl + 1))) from (by rw [own_L_i2l, own_L_add, hstep])]
          show Rch p ev below _ T135 (mkF m 110 #[.val (.ref so), .val (.int (Int32.ofNat jj))] [(.long (own_L (own_F A.toInt B.toInt e (fcl + 1)))), (.int (Int32.ofNat (fcl + 1))), (.ref fs)])
          obtain ⟨T136, h136, X136, e136, W136, V136, st136⟩ := sdJ X135 hx hZ e135 Wl.2.2.2.2.1 (j := (Int32.ofNat (fcl + 1))) (own_in_N (by omega) (by omega)) (fcl + 1) (own_nat_N (by omega)) (by rw [hc3]; omega) (g := (mkF m 110 #[.val (.ref so), .val (.int (Int32.ofNat jj))] [(.long (own_L (own_F A.toInt B.toInt e (fcl + 1)))), (.int (Int32.ofNat (fcl + 1))), (.ref fs)])) rfl rfl (hb hby dfi_110)
          have N136 := Fr.snoc X136 N129 Wl.2.2.2.2.2.2.1.2.2.2.1
          have WW136 : own_W Z h136 n0 so rs rt fs bs kr kt kf kb rl tl (fll.set (fcl + 1) (.long (own_L (own_F A.toInt B.toInt e (fcl + 1))))) bl zl [(.ref rs), (.ref rt), (.int rc), (.int (Int32.ofNat N)), (.long sm), (.ref fs), (.int (Int32.ofNat fcl)), (.int (1 : Int32)), (.ref bs), (.int (Int32.ofNat bc)), (.int br), (.int los), (.int lo), (.long gb), (.long ga)] := own_W_fs Wl W136 V136
          refine Rch.go st136 ?_
          show Rch p ev below _ T136 (mkF m 111 #[.val (.ref so), .val (.int (Int32.ofNat jj))] [])
          refine Rch.go (fun _ q => XS.aloadN X136.here hx rfl (hb hby dfi_111) rfl rfl q) ?_
          show Rch p ev below _ T136 (mkF m 112 #[.val (.ref so), .val (.int (Int32.ofNat jj))] [(.ref so)])
          refine Rch.go (fun _ q => XS.dup X136.here hx rfl (hb hby dfi_112) rfl rfl q) ?_
          show Rch p ev below _ T136 (mkF m 113 #[.val (.ref so), .val (.int (Int32.ofNat jj))] [(.ref so), (.ref so)])
          obtain ⟨T137, X137, e137, st137⟩ := getF X136 hx hZ hown (host := "") (Or.inl (hw _ (List.mem_of_getElem? (i := 74) rfl))) Via.refl e136 (WW136.2.1 6 _ _ _ rfl rfl) (g := (mkF m 113 #[.val (.ref so), .val (.int (Int32.ofNat jj))] [(.ref so), (.ref so)])) rfl rfl (hb hby dfi_113)
          refine Rch.go st137 ?_
          show Rch p ev below _ T137 (mkF m 116 #[.val (.ref so), .val (.int (Int32.ofNat jj))] [(.int (Int32.ofNat fcl)), (.ref so)])
          refine Rch.go (fun _ q => XS.iconst X137.here hx rfl (hb hby dfi_116) q) ?_
          show Rch p ev below _ T137 (mkF m 117 #[.val (.ref so), .val (.int (Int32.ofNat jj))] [(.int (1 : Int32)), (.int (Int32.ofNat fcl)), (.ref so)])
          refine Rch.go (fun _ q => XS.iadd X137.here hx rfl (hb hby dfi_117) rfl q) ?_
          show Rch p ev below _ T137 (mkF m 118 #[.val (.ref so), .val (.int (Int32.ofNat jj))] [(.int ((Int32.ofNat fcl) + (1 : Int32))), (.ref so)])
          rw [show (Int32.ofNat fcl + (1 : Int32)) = (Int32.ofNat (fcl + 1)) from (own_add1_N (by omega))]
          show Rch p ev below _ T137 (mkF m 118 #[.val (.ref so), .val (.int (Int32.ofNat jj))] [(.int (Int32.ofNat (fcl + 1))), (.ref so)])
          obtain ⟨T138, h138, X138, e138, W138, st138⟩ := putF X137 hx hZ hown (host := "") (Or.inl (hw _ (List.mem_of_getElem? (i := 74) rfl))) Via.refl e137 (WW136.2.1 6 _ _ _ rfl rfl) WW136.1 (Or.inl (hw _ (List.mem_of_getElem? (i := 75) rfl))) (hw _ (List.mem_of_getElem? (i := 8) rfl)) (ty := .int) (by decide) rfl rfl (g := (mkF m 118 #[.val (.ref so), .val (.int (Int32.ofNat jj))] [(.int (Int32.ofNat (fcl + 1))), (.ref so)])) rfl rfl (hb hby dfi_118)
          have N138 := Fr.snoc X138 N136 WW136.2.2.2.2.2.2.1.1
          have Z138 : n0 ≤ h138.size := by rw [W138.size]; exact WW136.2.2.2.2.2.2.1.2.2.2.2.2
          refine Rch.go st138 ?_
          show Rch p ev below _ T138 (mkF m 121 #[.val (.ref so), .val (.int (Int32.ofNat jj))] [])
          have WW138 : own_W Z h138 n0 so rs rt fs bs kr kt kf kb rl tl (fll.set (fcl + 1) (.long (own_L (own_F A.toInt B.toInt e (fcl + 1))))) bl zl [(.ref rs), (.ref rt), (.int rc), (.int (Int32.ofNat N)), (.long sm), (.ref fs), (.int (Int32.ofNat (fcl + 1))), (.int (1 : Int32)), (.ref bs), (.int (Int32.ofNat bc)), (.int br), (.int los), (.int lo), (.long gb), (.long ga)] := own_W_put hw WW136 6 rfl W138
          refine Rch.go (fun _ q => XS.goto X138.here hx rfl (pc0 := 121) (pc' := 47) rfl (hb hby dfi_121) (by decide) (by decide) q) ?_
          show Rch p ev below _ T138 (mkF m 47 #[.val (.ref so), .val (.int (Int32.ofNat jj))] [])
          exact ih _ _ _ (fcl + 1) (1 : Int32) _ X138 e138 N138 WW138 ⟨by omega, Or.inr ⟨rfl, by omega⟩, by rw [List.length_set]; exact hc3, fun i hi => by
            rw [own_getD_set _ _ _ _ _ (by rw [hc3]; omega)]
            by_cases q : i = fcl + 1
            · rw [if_pos q, q]
            · rw [if_neg q]; exact hvals i (by omega)⟩ (by omega)
      · skip
        refine Rch.go (fun _ q => XS.icmpYes X103.here hx rfl (pc0 := 52) (pc' := 124) rfl (hb hby dfi_52) rfl (flt ((mt (own_lt_N (a := fcl) (b := jj) (by omega) (by omega)).mp hc52))).2.1 (by decide) (by decide) q) ?_
        show Rch p ev below _ T103 (mkF m 124 #[.val (.ref so), .val (.int (Int32.ofNat jj))] [])
        refine Rch.go (fun _ q => XS.aloadN X103.here hx rfl (hb hby dfi_124) rfl rfl q) ?_
        show Rch p ev below _ T103 (mkF m 125 #[.val (.ref so), .val (.int (Int32.ofNat jj))] [(.ref so)])
        obtain ⟨T139, X139, e139, st139⟩ := getF X103 hx hZ hown (host := "") (Or.inl (hw _ (List.mem_of_getElem? (i := 17) rfl))) Via.refl e103 (Wl.2.1 5 _ _ _ rfl rfl) (g := (mkF m 125 #[.val (.ref so), .val (.int (Int32.ofNat jj))] [(.ref so)])) rfl rfl (hb hby dfi_125)
        refine Rch.go st139 ?_
        show Rch p ev below _ T139 (mkF m 128 #[.val (.ref so), .val (.int (Int32.ofNat jj))] [(.ref fs)])
        refine Rch.go (fun _ q => XS.iloadN X139.here hx rfl (hb hby dfi_128) rfl  q) ?_
        show Rch p ev below _ T139 (mkF m 129 #[.val (.ref so), .val (.int (Int32.ofNat jj))] [(.int (Int32.ofNat jj)), (.ref fs)])
        refine Rch.go (fun _ q => ldJ X139 hx hZ e139 Wl.2.2.2.2.1 (j := (Int32.ofNat jj)) (v := (.long (own_L (own_F A.toInt B.toInt e jj)))) (own_in_N (by omega) (by omega)) (by rw [own_nat_N (by omega)]; exact hvals jj (by omega)) (g := (mkF m 129 #[.val (.ref so), .val (.int (Int32.ofNat jj))] [(.int (Int32.ofNat jj)), (.ref fs)])) rfl rfl (hb hby dfi_129) _ q) ?_
        show Rch p ev below _ T139 (mkF m 130 #[.val (.ref so), .val (.int (Int32.ofNat jj))] [(.long (own_L (own_F A.toInt B.toInt e jj)))])
        refine Rch.retJ X139 hx hlk Bd.returns (hb hby dfi_130) (by decide) (by decide) ?_
        unfold Qrmfi0
        rw [e139]
        exact ⟨rfl, Nl, fcl, bc, rs, rt, fs, bs, kr, kt, kf, kb, rl, tl, fll, bl, zl, frl, br, los, sm, gb, Wl, Is, hinv, Ib⟩
  refine Rch.go (fun _ q => XS.iloadN X0.here hx rfl (hb hby dfi_0) rfl  q) ?_
  show Rch p ev below _ s₁ (mkF m 1 #[.val (.ref so), .val (.int (Int32.ofNat jj))] [(.int (Int32.ofNat jj))])
  refine Rch.go (fun _ q => XS.aloadN X0.here hx rfl (hb hby dfi_1) rfl rfl q) ?_
  show Rch p ev below _ s₁ (mkF m 2 #[.val (.ref so), .val (.int (Int32.ofNat jj))] [(.ref so), (.int (Int32.ofNat jj))])
  obtain ⟨T140, X140, e140, st140⟩ := getF X0 hx hZ hown (host := "") (Or.inl (hw _ (List.mem_of_getElem? (i := 74) rfl))) Via.refl e0 (WW.2.1 6 _ _ _ rfl rfl) (g := (mkF m 2 #[.val (.ref so), .val (.int (Int32.ofNat jj))] [(.ref so), (.int (Int32.ofNat jj))])) rfl rfl (hb hby dfi_2)
  refine Rch.go st140 ?_
  show Rch p ev below _ T140 (mkF m 5 #[.val (.ref so), .val (.int (Int32.ofNat jj))] [(.int (Int32.ofNat fc)), (.int (Int32.ofNat jj))])
  by_cases hc5 : fc < jj
  · skip
    refine Rch.go (fun _ q => XS.icmpNo X140.here hx rfl (hb hby dfi_5) rfl (tlt ((own_lt_N (a := fc) (b := jj) (by omega) (by omega)).mpr hc5)).2.2.2 q) ?_
    show Rch p ev below _ T140 (mkF m 8 #[.val (.ref so), .val (.int (Int32.ofNat jj))] [])
    refine Rch.go (fun _ q => XS.aloadN X140.here hx rfl (hb hby dfi_8) rfl rfl q) ?_
    show Rch p ev below _ T140 (mkF m 9 #[.val (.ref so), .val (.int (Int32.ofNat jj))] [(.ref so)])
    obtain ⟨T141, X141, e141, st141⟩ := getF X140 hx hZ hown (host := "") (Or.inl (hw _ (List.mem_of_getElem? (i := 33) rfl))) Via.refl e140 (WW.2.1 3 _ _ _ rfl rfl) (g := (mkF m 9 #[.val (.ref so), .val (.int (Int32.ofNat jj))] [(.ref so)])) rfl rfl (hb hby dfi_9)
    refine Rch.go st141 ?_
    show Rch p ev below _ T141 (mkF m 12 #[.val (.ref so), .val (.int (Int32.ofNat jj))] [(.int (Int32.ofNat N))])
    refine Rch.go (fun _ q => XS.iloadN X141.here hx rfl (hb hby dfi_12) rfl  q) ?_
    show Rch p ev below _ T141 (mkF m 13 #[.val (.ref so), .val (.int (Int32.ofNat jj))] [(.int (Int32.ofNat jj)), (.int (Int32.ofNat N))])
    refine Rch.go (fun _ q => XS.isub X141.here hx rfl (hb hby dfi_13) rfl q) ?_
    show Rch p ev below _ T141 (mkF m 14 #[.val (.ref so), .val (.int (Int32.ofNat jj))] [(.int ((Int32.ofNat N) - (Int32.ofNat jj)))])
    rw [show (Int32.ofNat N - Int32.ofNat jj) = (Int32.ofNat (N - jj)) from (own_sub_N (by omega) (by omega))]
    show Rch p ev below _ T141 (mkF m 14 #[.val (.ref so), .val (.int (Int32.ofNat jj))] [(.int (Int32.ofNat (N - jj)))])
    refine Rch.go (fun _ q => XS.aloadN X141.here hx rfl (hb hby dfi_14) rfl rfl q) ?_
    show Rch p ev below _ T141 (mkF m 15 #[.val (.ref so), .val (.int (Int32.ofNat jj))] [(.ref so), (.int (Int32.ofNat (N - jj)))])
    obtain ⟨T142, X142, e142, st142⟩ := getF X141 hx hZ hown (host := "") (Or.inl (hw _ (List.mem_of_getElem? (i := 37) rfl))) Via.refl e141 (WW.2.1 9 _ _ _ rfl rfl) (g := (mkF m 15 #[.val (.ref so), .val (.int (Int32.ofNat jj))] [(.ref so), (.int (Int32.ofNat (N - jj)))])) rfl rfl (hb hby dfi_15)
    refine Rch.go st142 ?_
    show Rch p ev below _ T142 (mkF m 18 #[.val (.ref so), .val (.int (Int32.ofNat jj))] [(.int (Int32.ofNat bc)), (.int (Int32.ofNat (N - jj)))])
    refine Rch.go (fun _ q => XS.icmpNo X142.here hx rfl (hb hby dfi_18) rfl (tlt ((own_lt_N (a := bc) (b := N - jj) (by omega) (by omega)).mpr (by omega))).2.2.2 q) ?_
    show Rch p ev below _ T142 (mkF m 21 #[.val (.ref so), .val (.int (Int32.ofNat jj))] [])
    refine Rch.go (fun _ q => XS.aloadN X142.here hx rfl (hb hby dfi_21) rfl rfl q) ?_
    show Rch p ev below _ T142 (mkF m 22 #[.val (.ref so), .val (.int (Int32.ofNat jj))] [(.ref so)])
    obtain ⟨T143, X143, e143, st143⟩ := getF X142 hx hZ hown (host := "") (Or.inl (hw _ (List.mem_of_getElem? (i := 33) rfl))) Via.refl e142 (WW.2.1 3 _ _ _ rfl rfl) (g := (mkF m 22 #[.val (.ref so), .val (.int (Int32.ofNat jj))] [(.ref so)])) rfl rfl (hb hby dfi_22)
    refine Rch.go st143 ?_
    show Rch p ev below _ T143 (mkF m 25 #[.val (.ref so), .val (.int (Int32.ofNat jj))] [(.int (Int32.ofNat N))])
    refine Rch.go (fun _ q => XS.iloadN X143.here hx rfl (hb hby dfi_25) rfl  q) ?_
    show Rch p ev below _ T143 (mkF m 26 #[.val (.ref so), .val (.int (Int32.ofNat jj))] [(.int (Int32.ofNat jj)), (.int (Int32.ofNat N))])
    refine Rch.go (fun _ q => XS.isub X143.here hx rfl (hb hby dfi_26) rfl q) ?_
    show Rch p ev below _ T143 (mkF m 27 #[.val (.ref so), .val (.int (Int32.ofNat jj))] [(.int ((Int32.ofNat N) - (Int32.ofNat jj)))])
    rw [show (Int32.ofNat N - Int32.ofNat jj) = (Int32.ofNat (N - jj)) from (own_sub_N (by omega) (by omega))]
    show Rch p ev below _ T143 (mkF m 27 #[.val (.ref so), .val (.int (Int32.ofNat jj))] [(.int (Int32.ofNat (N - jj)))])
    refine Rch.go (fun _ q => XS.iloadN X143.here hx rfl (hb hby dfi_27) rfl  q) ?_
    show Rch p ev below _ T143 (mkF m 28 #[.val (.ref so), .val (.int (Int32.ofNat jj))] [(.int (Int32.ofNat jj)), (.int (Int32.ofNat (N - jj)))])
    refine Rch.go (fun _ q => XS.icmpYes X143.here hx rfl (pc0 := 28) (pc' := 47) rfl (hb hby dfi_28) rfl (flt (mt (own_lt_N (a := N - jj) (b := jj) (by omega) (by omega)).mp (by omega))).2.1 (by decide) (by decide) q) ?_
    show Rch p ev below _ T143 (mkF m 47 #[.val (.ref so), .val (.int (Int32.ofNat jj))] [])
    exact loop jj _ _ _ fc _ _ X143 e143 N0 WW If (by omega)
  · skip
    refine Rch.go (fun _ q => XS.icmpYes X140.here hx rfl (pc0 := 5) (pc' := 47) rfl (hb hby dfi_5) rfl (flt ((mt (own_lt_N (a := fc) (b := jj) (by omega) (by omega)).mp hc5))).2.2.2 (by decide) (by decide) q) ?_
    show Rch p ev below _ T140 (mkF m 47 #[.val (.ref so), .val (.int (Int32.ofNat jj))] [])
    exact loop jj _ _ _ fc _ _ X140 e140 N0 WW If (by omega)
theorem own_ef9 (m : MethodId) (x0 : Addr) (x1 : Int32) : entryFrame m #[(.ref x0), (.int x1)] 2 = mkF m 0 #[.val (.ref x0), .val (.int x1)] [] := by first | (simp [entryFrame, mkF, argsToLocals, Value.category, maxLocals]; done) | rfl
def Qrmfi1 (Z : State) (so : Addr) (A B : Int32) (e N : Nat) (rc lo : Int32) (ga : Int64) (fc bc jj : Nat) (h0 : Heap) (n0 : Nat) : Option Value → Heap → List Loc → Prop := fun v h L => v = some (.long (own_L (own_F A.toInt B.toInt e jj))) ∧ Fr n0 L ∧ own_Sg Z h n0 so A B e N rc lo ga
set_option maxRecDepth 65536 in
set_option maxHeartbeats 40000000 in
theorem rmfi1 (l : Launch) (Z : State) (a0 : Array Value) (hw : ∀ d ∈ tables_1, d.before a0 Z = true) (ws : List Jvm.Cond) (so : Addr) (A B : Int32) (e N : Nat) (rc lo : Int32) (ga : Int64) (fc bc jj : Nat) (h0 : Heap) (n0 : Nat) (Z0 : n0 ≤ h0.size) (S : own_Sx Z h0 n0 so A B e N rc lo ga fc bc) (hj : jj ≤ N) (hb1 : fc < jj ∧ (N - jj ≤ bc ∨ N - jj < jj)) :
    MetFree l (⟨"com/example/binflow/binflow/solve/SubsetSums", "first", "(I)J"⟩ : MethodName) (head1 (Jvm.Cond.code (⟨"com/example/binflow/binflow/solve/SubsetSums", "first", "(I)J"⟩ : MethodName) prog_23_method_14_code 2 (some .long) :: ws) ({ frames := 1, cells := 0, slots := 0, locals := 15 } : Room)) (fun a U => a = #[(.ref so), (.int (Int32.ofNat jj))] ∧ Z.Warmed39 U.vm ∧ U.heap = h0) (fun _ _ _ _ _ => True) (fun _ U o U' => ∃ v L, o = .returned v ∧ (Qrmfi1 Z so A B e N rc lo ga fc bc jj h0 n0) v U'.heap L ∧ FrameEnd U o U' L ({ frames := 1, cells := 0, slots := 0, locals := 15 } : Room).cells ({ frames := 1, cells := 0, slots := 0, locals := 15 } : Room).slots) := by
  refine MetFree.of_bodySF own_pn5 hisR ?_
  intro p ev s m args below meth c s₁ Bd hml0 hP hK
  obtain ⟨rfl, hZ, hh⟩ := hP
  have hx := Bd.exec
  have hby := Bd.bytes
  have hlk := Bd.notSynchronized
  have hml : c.maxLocals = 2 := hml0
  have hown : s.vm.findClass "com/example/binflow/binflow/solve/SubsetSums" = some m.cls := findClass_of_methodNamed Bd.named
  have hnm := (name_of_methodNamed Bd.named Bd.method).1
  have X0 : Stand p l ev ({ frames := 1, cells := 0, slots := 0, locals := 15 } : Room) s m #[(.ref so), (.int (Int32.ofNat jj))] below meth c s₁ [] 0 0 := Stand.of_body Bd
  have e0 : s₁.heap = h0 := by rw [← hh, Bd.state]; rfl
  have N0 := Fr.nil n0
  refine Rch.entry (G := (EndQ (Qrmfi1 Z so A B e N rc lo ga fc bc jj h0 n0) s ({ frames := 1, cells := 0, slots := 0, locals := 15 } : Room).cells ({ frames := 1, cells := 0, slots := 0, locals := 15 } : Room).slots)) (own_ef9 m so (Int32.ofNat jj)) ?_
  show Rch p ev below _ s₁ (mkF m 0 #[.val (.ref so), .val (.int (Int32.ofNat jj))] [])
  obtain ⟨rs, rt, fs, bs, kr, kt, kf, kb, rl, tl, fl, bl, zl, fr, br, los, sm, gb, WW, Is, If, Ib⟩ := id S
  obtain ⟨hA, hB, he1, heN, hN8, hrc, r0, r1, t0, t1, zN, z16, hsm, hrl2, htl2⟩ := id Is
  have hfcN := If.1
  have hbcN := Ib.1
  refine Rch.go (fun _ q => XS.iloadN X0.here hx rfl (hb hby dfi_0) rfl  q) ?_
  show Rch p ev below _ s₁ (mkF m 1 #[.val (.ref so), .val (.int (Int32.ofNat jj))] [(.int (Int32.ofNat jj))])
  refine Rch.go (fun _ q => XS.aloadN X0.here hx rfl (hb hby dfi_1) rfl rfl q) ?_
  show Rch p ev below _ s₁ (mkF m 2 #[.val (.ref so), .val (.int (Int32.ofNat jj))] [(.ref so), (.int (Int32.ofNat jj))])
  obtain ⟨T101, X101, e101, st101⟩ := getF X0 hx hZ hown (host := "") (Or.inl (hw _ (List.mem_of_getElem? (i := 74) rfl))) Via.refl e0 (WW.2.1 6 _ _ _ rfl rfl) (g := (mkF m 2 #[.val (.ref so), .val (.int (Int32.ofNat jj))] [(.ref so), (.int (Int32.ofNat jj))])) rfl rfl (hb hby dfi_2)
  refine Rch.go st101 ?_
  show Rch p ev below _ T101 (mkF m 5 #[.val (.ref so), .val (.int (Int32.ofNat jj))] [(.int (Int32.ofNat fc)), (.int (Int32.ofNat jj))])
  refine Rch.go (fun _ q => XS.icmpNo X101.here hx rfl (hb hby dfi_5) rfl (tlt ((own_lt_N (a := fc) (b := jj) (by omega) (by omega)).mpr hb1.1)).2.2.2 q) ?_
  show Rch p ev below _ T101 (mkF m 8 #[.val (.ref so), .val (.int (Int32.ofNat jj))] [])
  refine Rch.go (fun _ q => XS.aloadN X101.here hx rfl (hb hby dfi_8) rfl rfl q) ?_
  show Rch p ev below _ T101 (mkF m 9 #[.val (.ref so), .val (.int (Int32.ofNat jj))] [(.ref so)])
  obtain ⟨T102, X102, e102, st102⟩ := getF X101 hx hZ hown (host := "") (Or.inl (hw _ (List.mem_of_getElem? (i := 33) rfl))) Via.refl e101 (WW.2.1 3 _ _ _ rfl rfl) (g := (mkF m 9 #[.val (.ref so), .val (.int (Int32.ofNat jj))] [(.ref so)])) rfl rfl (hb hby dfi_9)
  refine Rch.go st102 ?_
  show Rch p ev below _ T102 (mkF m 12 #[.val (.ref so), .val (.int (Int32.ofNat jj))] [(.int (Int32.ofNat N))])
  refine Rch.go (fun _ q => XS.iloadN X102.here hx rfl (hb hby dfi_12) rfl  q) ?_
  show Rch p ev below _ T102 (mkF m 13 #[.val (.ref so), .val (.int (Int32.ofNat jj))] [(.int (Int32.ofNat jj)), (.int (Int32.ofNat N))])
  refine Rch.go (fun _ q => XS.isub X102.here hx rfl (hb hby dfi_13) rfl q) ?_
  show Rch p ev below _ T102 (mkF m 14 #[.val (.ref so), .val (.int (Int32.ofNat jj))] [(.int ((Int32.ofNat N) - (Int32.ofNat jj)))])
  rw [show (Int32.ofNat N - Int32.ofNat jj) = (Int32.ofNat (N - jj)) from (own_sub_N (by omega) (by omega))]
  show Rch p ev below _ T102 (mkF m 14 #[.val (.ref so), .val (.int (Int32.ofNat jj))] [(.int (Int32.ofNat (N - jj)))])
  refine Rch.go (fun _ q => XS.aloadN X102.here hx rfl (hb hby dfi_14) rfl rfl q) ?_
  show Rch p ev below _ T102 (mkF m 15 #[.val (.ref so), .val (.int (Int32.ofNat jj))] [(.ref so), (.int (Int32.ofNat (N - jj)))])
  obtain ⟨T103, X103, e103, st103⟩ := getF X102 hx hZ hown (host := "") (Or.inl (hw _ (List.mem_of_getElem? (i := 37) rfl))) Via.refl e102 (WW.2.1 9 _ _ _ rfl rfl) (g := (mkF m 15 #[.val (.ref so), .val (.int (Int32.ofNat jj))] [(.ref so), (.int (Int32.ofNat (N - jj)))])) rfl rfl (hb hby dfi_15)
  refine Rch.go st103 ?_
  show Rch p ev below _ T103 (mkF m 18 #[.val (.ref so), .val (.int (Int32.ofNat jj))] [(.int (Int32.ofNat bc)), (.int (Int32.ofNat (N - jj)))])
  by_cases hc18 : bc < N - jj
  · skip
    refine Rch.go (fun _ q => XS.icmpNo X103.here hx rfl (hb hby dfi_18) rfl (tlt ((own_lt_N (a := bc) (b := N - jj) (by omega) (by omega)).mpr hc18)).2.2.2 q) ?_
    show Rch p ev below _ T103 (mkF m 21 #[.val (.ref so), .val (.int (Int32.ofNat jj))] [])
    refine Rch.go (fun _ q => XS.aloadN X103.here hx rfl (hb hby dfi_21) rfl rfl q) ?_
    show Rch p ev below _ T103 (mkF m 22 #[.val (.ref so), .val (.int (Int32.ofNat jj))] [(.ref so)])
    obtain ⟨T104, X104, e104, st104⟩ := getF X103 hx hZ hown (host := "") (Or.inl (hw _ (List.mem_of_getElem? (i := 33) rfl))) Via.refl e103 (WW.2.1 3 _ _ _ rfl rfl) (g := (mkF m 22 #[.val (.ref so), .val (.int (Int32.ofNat jj))] [(.ref so)])) rfl rfl (hb hby dfi_22)
    refine Rch.go st104 ?_
    show Rch p ev below _ T104 (mkF m 25 #[.val (.ref so), .val (.int (Int32.ofNat jj))] [(.int (Int32.ofNat N))])
    refine Rch.go (fun _ q => XS.iloadN X104.here hx rfl (hb hby dfi_25) rfl  q) ?_
    show Rch p ev below _ T104 (mkF m 26 #[.val (.ref so), .val (.int (Int32.ofNat jj))] [(.int (Int32.ofNat jj)), (.int (Int32.ofNat N))])
    refine Rch.go (fun _ q => XS.isub X104.here hx rfl (hb hby dfi_26) rfl q) ?_
    show Rch p ev below _ T104 (mkF m 27 #[.val (.ref so), .val (.int (Int32.ofNat jj))] [(.int ((Int32.ofNat N) - (Int32.ofNat jj)))])
    rw [show (Int32.ofNat N - Int32.ofNat jj) = (Int32.ofNat (N - jj)) from (own_sub_N (by omega) (by omega))]
    show Rch p ev below _ T104 (mkF m 27 #[.val (.ref so), .val (.int (Int32.ofNat jj))] [(.int (Int32.ofNat (N - jj)))])
    refine Rch.go (fun _ q => XS.iloadN X104.here hx rfl (hb hby dfi_27) rfl  q) ?_
    show Rch p ev below _ T104 (mkF m 28 #[.val (.ref so), .val (.int (Int32.ofNat jj))] [(.int (Int32.ofNat jj)), (.int (Int32.ofNat (N - jj)))])
    refine Rch.go (fun _ q => XS.icmpNo X104.here hx rfl (hb hby dfi_28) rfl (tlt ((own_lt_N (a := N - jj) (b := jj) (by omega) (by omega)).mpr (by omega))).2.1 q) ?_
    show Rch p ev below _ T104 (mkF m 31 #[.val (.ref so), .val (.int (Int32.ofNat jj))] [])
    refine Rch.go (fun _ q => XS.aloadN X104.here hx rfl (hb hby dfi_31) rfl rfl q) ?_
    show Rch p ev below _ T104 (mkF m 32 #[.val (.ref so), .val (.int (Int32.ofNat jj))] [(.ref so)])
    obtain ⟨T105, X105, e105, st105⟩ := getF X104 hx hZ hown (host := "") (Or.inl (hw _ (List.mem_of_getElem? (i := 35) rfl))) Via.refl e104 (WW.2.1 4 _ _ _ rfl rfl) (g := (mkF m 32 #[.val (.ref so), .val (.int (Int32.ofNat jj))] [(.ref so)])) rfl rfl (hb hby dfi_32)
    refine Rch.go st105 ?_
    show Rch p ev below _ T105 (mkF m 35 #[.val (.ref so), .val (.int (Int32.ofNat jj))] [(.long sm)])
    refine Rch.go (fun _ q => XS.aloadN X105.here hx rfl (hb hby dfi_35) rfl rfl q) ?_
    show Rch p ev below _ T105 (mkF m 36 #[.val (.ref so), .val (.int (Int32.ofNat jj))] [(.ref so), (.long sm)])
    refine Rch.go (fun _ q => XS.aloadN X105.here hx rfl (hb hby dfi_36) rfl rfl q) ?_
    show Rch p ev below _ T105 (mkF m 37 #[.val (.ref so), .val (.int (Int32.ofNat jj))] [(.ref so), (.ref so), (.long sm)])
    obtain ⟨T106, X106, e106, st106⟩ := getF X105 hx hZ hown (host := "") (Or.inl (hw _ (List.mem_of_getElem? (i := 33) rfl))) Via.refl e105 (WW.2.1 3 _ _ _ rfl rfl) (g := (mkF m 37 #[.val (.ref so), .val (.int (Int32.ofNat jj))] [(.ref so), (.ref so), (.long sm)])) rfl rfl (hb hby dfi_37)
    refine Rch.go st106 ?_
    show Rch p ev below _ T106 (mkF m 40 #[.val (.ref so), .val (.int (Int32.ofNat jj))] [(.int (Int32.ofNat N)), (.ref so), (.long sm)])
    refine Rch.go (fun _ q => XS.iloadN X106.here hx rfl (hb hby dfi_40) rfl  q) ?_
    show Rch p ev below _ T106 (mkF m 41 #[.val (.ref so), .val (.int (Int32.ofNat jj))] [(.int (Int32.ofNat jj)), (.int (Int32.ofNat N)), (.ref so), (.long sm)])
    refine Rch.go (fun _ q => XS.isub X106.here hx rfl (hb hby dfi_41) rfl q) ?_
    show Rch p ev below _ T106 (mkF m 42 #[.val (.ref so), .val (.int (Int32.ofNat jj))] [(.int ((Int32.ofNat N) - (Int32.ofNat jj))), (.ref so), (.long sm)])
    rw [show (Int32.ofNat N - Int32.ofNat jj) = (Int32.ofNat (N - jj)) from (own_sub_N (by omega) (by omega))]
    show Rch p ev below _ T106 (mkF m 42 #[.val (.ref so), .val (.int (Int32.ofNat jj))] [(.int (Int32.ofNat (N - jj))), (.ref so), (.long sm)])
    obtain ⟨cq107, q107, q107'⟩ := Exa.cell WW.1
    obtain ⟨_, _, ⟨T107, L107, k107, n107⟩, -, X107, ⟨Lc107, hQ107, l107, y107, z107⟩, st107⟩ := X106.privateBack hx (y := (⟨"com/example/binflow/binflow/solve/SubsetSums", "last", "(I)J"⟩ : MethodName)) hown (mvT hZ (hw _ (List.mem_of_getElem? (i := 76) rfl))) (mvT hZ (hw _ (List.mem_of_getElem? (i := 77) rfl))) (mvT hZ (own_sel (by decide) (hw _ (List.mem_of_getElem? (i := 8) rfl)) (hw _ (List.mem_of_getElem? (i := 78) rfl)) (hw _ (List.mem_of_getElem? (i := 77) rfl)))) (Cond.privateMethod_at (mvP hZ (hw _ (List.mem_of_getElem? (i := 78) rfl)) (args := #[]))) (mvT hZ (hw _ (List.mem_of_getElem? (i := 79) rfl))) (by decide) (backOf (W := 2) (rmla0 l Z a0 hw [] so A B e N rc lo ga fc bc (N - jj) h0 n0 Z0 S (by omega) (by omega)) hZ (hw _ (List.mem_of_getElem? (i := 79) rfl)) (hw _ (List.mem_of_getElem? (i := 9) rfl)) (by decide) (by decide)) (g := (mkF m 42 #[.val (.ref so), .val (.int (Int32.ofNat jj))] [(.int (Int32.ofNat (N - jj))), (.ref so), (.long sm)])) rfl (by rw [hml]; rfl) (Steps.refl _) (a := so) (by rw [e106]; exact q107) q107' (argsL := [(.int (Int32.ofNat (N - jj)))]) (rest := [(.long sm)]) (lenOf own_pd3 rfl) rfl (by show 2 * 0 + _ ≤ _; exact Nat.le_of_eq rfl) (hb hby dfi_42) (fun _ _ => ⟨rfl, e106, (by decide : 0 + 0 ≤ _), (by decide : 0 + 0 ≤ _)⟩)
    dsimp only [Pt.U, Pt.locs, Pt.cells, Pt.slots] at X107 l107 y107 z107 st107 hQ107
    subst l107 y107 z107
    obtain ⟨rfl, Nc, Sc⟩ := hQ107
    refine Rch.jump st107 ?_
    show Rch p ev below _ T107 (mkF m 45 #[.val (.ref so), .val (.int (Int32.ofNat jj))] [(.long (own_L ((own_F A.toInt B.toInt e N) - (own_F A.toInt B.toInt e (N - (N - jj)))))), (.long sm)])
    have N107 := Fr.app N0 Nc
    refine Rch.go (fun _ q => XS.lsub X107.here hx rfl (hb hby dfi_45) rfl q) ?_
    show Rch p ev below _ T107 (mkF m 46 #[.val (.ref so), .val (.int (Int32.ofNat jj))] [(.long (sm - (own_L ((own_F A.toInt B.toInt e N) - (own_F A.toInt B.toInt e (N - (N - jj)))))))])
    refine Rch.retJ X107 hx hlk Bd.returns (hb hby dfi_46) (by decide) (by decide) ?_
    unfold Qrmfi1
    refine ⟨?_, N107, Sc⟩
    have q : N - (N - jj) = jj := by omega
    rw [hsm, own_L_sub, q]; congr 3; omega
  · skip
    refine Rch.go (fun _ q => XS.icmpYes X103.here hx rfl (pc0 := 18) (pc' := 31) rfl (hb hby dfi_18) rfl (flt ((mt (own_lt_N (a := bc) (b := N - jj) (by omega) (by omega)).mp hc18))).2.2.2 (by decide) (by decide) q) ?_
    show Rch p ev below _ T103 (mkF m 31 #[.val (.ref so), .val (.int (Int32.ofNat jj))] [])
    refine Rch.go (fun _ q => XS.aloadN X103.here hx rfl (hb hby dfi_31) rfl rfl q) ?_
    show Rch p ev below _ T103 (mkF m 32 #[.val (.ref so), .val (.int (Int32.ofNat jj))] [(.ref so)])
    obtain ⟨T108, X108, e108, st108⟩ := getF X103 hx hZ hown (host := "") (Or.inl (hw _ (List.mem_of_getElem? (i := 35) rfl))) Via.refl e103 (WW.2.1 4 _ _ _ rfl rfl) (g := (mkF m 32 #[.val (.ref so), .val (.int (Int32.ofNat jj))] [(.ref so)])) rfl rfl (hb hby dfi_32)
    refine Rch.go st108 ?_
    show Rch p ev below _ T108 (mkF m 35 #[.val (.ref so), .val (.int (Int32.ofNat jj))] [(.long sm)])
    refine Rch.go (fun _ q => XS.aloadN X108.here hx rfl (hb hby dfi_35) rfl rfl q) ?_
    show Rch p ev below _ T108 (mkF m 36 #[.val (.ref so), .val (.int (Int32.ofNat jj))] [(.ref so), (.long sm)])
    refine Rch.go (fun _ q => XS.aloadN X108.here hx rfl (hb hby dfi_36) rfl rfl q) ?_
    show Rch p ev below _ T108 (mkF m 37 #[.val (.ref so), .val (.int (Int32.ofNat jj))] [(.ref so), (.ref so), (.long sm)])
    obtain ⟨T109, X109, e109, st109⟩ := getF X108 hx hZ hown (host := "") (Or.inl (hw _ (List.mem_of_getElem? (i := 33) rfl))) Via.refl e108 (WW.2.1 3 _ _ _ rfl rfl) (g := (mkF m 37 #[.val (.ref so), .val (.int (Int32.ofNat jj))] [(.ref so), (.ref so), (.long sm)])) rfl rfl (hb hby dfi_37)
    refine Rch.go st109 ?_
    show Rch p ev below _ T109 (mkF m 40 #[.val (.ref so), .val (.int (Int32.ofNat jj))] [(.int (Int32.ofNat N)), (.ref so), (.long sm)])
    refine Rch.go (fun _ q => XS.iloadN X109.here hx rfl (hb hby dfi_40) rfl  q) ?_
    show Rch p ev below _ T109 (mkF m 41 #[.val (.ref so), .val (.int (Int32.ofNat jj))] [(.int (Int32.ofNat jj)), (.int (Int32.ofNat N)), (.ref so), (.long sm)])
    refine Rch.go (fun _ q => XS.isub X109.here hx rfl (hb hby dfi_41) rfl q) ?_
    show Rch p ev below _ T109 (mkF m 42 #[.val (.ref so), .val (.int (Int32.ofNat jj))] [(.int ((Int32.ofNat N) - (Int32.ofNat jj))), (.ref so), (.long sm)])
    rw [show (Int32.ofNat N - Int32.ofNat jj) = (Int32.ofNat (N - jj)) from (own_sub_N (by omega) (by omega))]
    show Rch p ev below _ T109 (mkF m 42 #[.val (.ref so), .val (.int (Int32.ofNat jj))] [(.int (Int32.ofNat (N - jj))), (.ref so), (.long sm)])
    obtain ⟨cq110, q110, q110'⟩ := Exa.cell WW.1
    obtain ⟨_, _, ⟨T110, L110, k110, n110⟩, -, X110, ⟨Lc110, hQ110, l110, y110, z110⟩, st110⟩ := X109.privateBack hx (y := (⟨"com/example/binflow/binflow/solve/SubsetSums", "last", "(I)J"⟩ : MethodName)) hown (mvT hZ (hw _ (List.mem_of_getElem? (i := 76) rfl))) (mvT hZ (hw _ (List.mem_of_getElem? (i := 77) rfl))) (mvT hZ (own_sel (by decide) (hw _ (List.mem_of_getElem? (i := 8) rfl)) (hw _ (List.mem_of_getElem? (i := 78) rfl)) (hw _ (List.mem_of_getElem? (i := 77) rfl)))) (Cond.privateMethod_at (mvP hZ (hw _ (List.mem_of_getElem? (i := 78) rfl)) (args := #[]))) (mvT hZ (hw _ (List.mem_of_getElem? (i := 79) rfl))) (by decide) (backOf (W := 2) (rmla0 l Z a0 hw [] so A B e N rc lo ga fc bc (N - jj) h0 n0 Z0 S (by omega) (by omega)) hZ (hw _ (List.mem_of_getElem? (i := 79) rfl)) (hw _ (List.mem_of_getElem? (i := 9) rfl)) (by decide) (by decide)) (g := (mkF m 42 #[.val (.ref so), .val (.int (Int32.ofNat jj))] [(.int (Int32.ofNat (N - jj))), (.ref so), (.long sm)])) rfl (by rw [hml]; rfl) (Steps.refl _) (a := so) (by rw [e109]; exact q110) q110' (argsL := [(.int (Int32.ofNat (N - jj)))]) (rest := [(.long sm)]) (lenOf own_pd3 rfl) rfl (by show 2 * 0 + _ ≤ _; exact Nat.le_of_eq rfl) (hb hby dfi_42) (fun _ _ => ⟨rfl, e109, (by decide : 0 + 0 ≤ _), (by decide : 0 + 0 ≤ _)⟩)
    dsimp only [Pt.U, Pt.locs, Pt.cells, Pt.slots] at X110 l110 y110 z110 st110 hQ110
    subst l110 y110 z110
    obtain ⟨rfl, Nc, Sc⟩ := hQ110
    refine Rch.jump st110 ?_
    show Rch p ev below _ T110 (mkF m 45 #[.val (.ref so), .val (.int (Int32.ofNat jj))] [(.long (own_L ((own_F A.toInt B.toInt e N) - (own_F A.toInt B.toInt e (N - (N - jj)))))), (.long sm)])
    have N110 := Fr.app N0 Nc
    refine Rch.go (fun _ q => XS.lsub X110.here hx rfl (hb hby dfi_45) rfl q) ?_
    show Rch p ev below _ T110 (mkF m 46 #[.val (.ref so), .val (.int (Int32.ofNat jj))] [(.long (sm - (own_L ((own_F A.toInt B.toInt e N) - (own_F A.toInt B.toInt e (N - (N - jj)))))))])
    refine Rch.retJ X110 hx hlk Bd.returns (hb hby dfi_46) (by decide) (by decide) ?_
    unfold Qrmfi1
    refine ⟨?_, N110, Sc⟩
    have q : N - (N - jj) = jj := by omega
    rw [hsm, own_L_sub, q]; congr 3; omega
def Qrmfi (Z : State) (so : Addr) (A B : Int32) (e N : Nat) (rc lo : Int32) (ga : Int64) (jj : Nat) (h0 : Heap) (n0 : Nat) : Option Value → Heap → List Loc → Prop := fun v h L => v = some (.long (own_L (own_F A.toInt B.toInt e jj))) ∧ Fr n0 L ∧ own_Sg Z h n0 so A B e N rc lo ga
set_option maxRecDepth 65536 in
set_option maxHeartbeats 40000000 in
theorem rmfi (l : Launch) (Z : State) (a0 : Array Value) (hw : ∀ d ∈ tables_1, d.before a0 Z = true) (ws : List Jvm.Cond) (so : Addr) (A B : Int32) (e N : Nat) (rc lo : Int32) (ga : Int64) (jj : Nat) (h0 : Heap) (n0 : Nat) (Z0 : n0 ≤ h0.size) (S : own_Sg Z h0 n0 so A B e N rc lo ga) (hj : jj ≤ N) :
    MetFree l (⟨"com/example/binflow/binflow/solve/SubsetSums", "first", "(I)J"⟩ : MethodName) (head1 (Jvm.Cond.code (⟨"com/example/binflow/binflow/solve/SubsetSums", "first", "(I)J"⟩ : MethodName) prog_23_method_14_code 2 (some .long) :: ws) ({ frames := 1, cells := 0, slots := 0, locals := 15 } : Room)) (fun a U => a = #[(.ref so), (.int (Int32.ofNat jj))] ∧ Z.Warmed39 U.vm ∧ U.heap = h0) (fun _ _ _ _ _ => True) (fun _ U o U' => ∃ v L, o = .returned v ∧ Qrmfi Z so A B e N rc lo ga jj h0 n0 v U'.heap L ∧ FrameEnd U o U' L ({ frames := 1, cells := 0, slots := 0, locals := 15 } : Room).cells ({ frames := 1, cells := 0, slots := 0, locals := 15 } : Room).slots) := by
  obtain ⟨fc, bc, S⟩ := S
  by_cases hb : fc < jj ∧ (N - jj ≤ bc ∨ N - jj < jj)
  · exact rmfi1 l Z a0 hw ws so A B e N rc lo ga fc bc jj h0 n0 Z0 S hj hb
  · exact rmfi0 l Z a0 hw ws so A B e N rc lo ga fc bc jj h0 n0 Z0 S hj hb
theorem own_ef10 (m : MethodId) (x0 : Addr) (x1 : Int32) : entryFrame m #[(.ref x0), (.int x1)] 2 = mkF m 0 #[.val (.ref x0), .val (.int x1)] [] := by first | (simp [entryFrame, mkF, argsToLocals, Value.category, maxLocals]; done) | rfl
def Qrmla1 (Z : State) (so : Addr) (A B : Int32) (e N : Nat) (rc lo : Int32) (ga : Int64) (fc bc jj : Nat) (h0 : Heap) (n0 : Nat) : Option Value → Heap → List Loc → Prop := fun v h L => v = some (.long (own_L ((own_F A.toInt B.toInt e N) - (own_F A.toInt B.toInt e (N - jj))))) ∧ Fr n0 L ∧ own_Sg Z h n0 so A B e N rc lo ga
set_option maxRecDepth 65536 in
set_option maxHeartbeats 40000000 in
theorem rmla1 (l : Launch) (Z : State) (a0 : Array Value) (hw : ∀ d ∈ tables_1, d.before a0 Z = true) (ws : List Jvm.Cond) (so : Addr) (A B : Int32) (e N : Nat) (rc lo : Int32) (ga : Int64) (fc bc jj : Nat) (h0 : Heap) (n0 : Nat) (Z0 : n0 ≤ h0.size) (S : own_Sx Z h0 n0 so A B e N rc lo ga fc bc) (hj : jj ≤ N) (hb1 : bc < jj ∧ (N - jj ≤ fc ∨ N - jj < jj)) :
    MetFree l (⟨"com/example/binflow/binflow/solve/SubsetSums", "last", "(I)J"⟩ : MethodName) (head1 (Jvm.Cond.code (⟨"com/example/binflow/binflow/solve/SubsetSums", "last", "(I)J"⟩ : MethodName) prog_23_method_15_code 2 (some .long) :: ws) ({ frames := 2, cells := 0, slots := 0, locals := 30 } : Room)) (fun a U => a = #[(.ref so), (.int (Int32.ofNat jj))] ∧ Z.Warmed39 U.vm ∧ U.heap = h0) (fun _ _ _ _ _ => True) (fun _ U o U' => ∃ v L, o = .returned v ∧ (Qrmla1 Z so A B e N rc lo ga fc bc jj h0 n0) v U'.heap L ∧ FrameEnd U o U' L ({ frames := 2, cells := 0, slots := 0, locals := 30 } : Room).cells ({ frames := 2, cells := 0, slots := 0, locals := 30 } : Room).slots) := by
  refine MetFree.of_bodySF own_pn4 hisR ?_
  intro p ev s m args below meth c s₁ Bd hml0 hP hK
  obtain ⟨rfl, hZ, hh⟩ := hP
  have hx := Bd.exec
  have hby := Bd.bytes
  have hlk := Bd.notSynchronized
  have hml : c.maxLocals = 2 := hml0
  have hown : s.vm.findClass "com/example/binflow/binflow/solve/SubsetSums" = some m.cls := findClass_of_methodNamed Bd.named
  have hnm := (name_of_methodNamed Bd.named Bd.method).1
  have X0 : Stand p l ev ({ frames := 2, cells := 0, slots := 0, locals := 30 } : Room) s m #[(.ref so), (.int (Int32.ofNat jj))] below meth c s₁ [] 0 0 := Stand.of_body Bd
  have e0 : s₁.heap = h0 := by rw [← hh, Bd.state]; rfl
  have N0 := Fr.nil n0
  refine Rch.entry (G := (EndQ (Qrmla1 Z so A B e N rc lo ga fc bc jj h0 n0) s ({ frames := 2, cells := 0, slots := 0, locals := 30 } : Room).cells ({ frames := 2, cells := 0, slots := 0, locals := 30 } : Room).slots)) (own_ef10 m so (Int32.ofNat jj)) ?_
  show Rch p ev below _ s₁ (mkF m 0 #[.val (.ref so), .val (.int (Int32.ofNat jj))] [])
  obtain ⟨rs, rt, fs, bs, kr, kt, kf, kb, rl, tl, fl, bl, zl, fr, br, los, sm, gb, WW, Is, If, Ib⟩ := id S
  obtain ⟨hA, hB, he1, heN, hN8, hrc, r0, r1, t0, t1, zN, z16, hsm, hrl2, htl2⟩ := id Is
  have hfcN := If.1
  have hbcN := Ib.1
  refine Rch.go (fun _ q => XS.iloadN X0.here hx rfl (hb hby dla_0) rfl  q) ?_
  show Rch p ev below _ s₁ (mkF m 1 #[.val (.ref so), .val (.int (Int32.ofNat jj))] [(.int (Int32.ofNat jj))])
  refine Rch.go (fun _ q => XS.aloadN X0.here hx rfl (hb hby dla_1) rfl rfl q) ?_
  show Rch p ev below _ s₁ (mkF m 2 #[.val (.ref so), .val (.int (Int32.ofNat jj))] [(.ref so), (.int (Int32.ofNat jj))])
  obtain ⟨T101, X101, e101, st101⟩ := getF X0 hx hZ hown (host := "") (Or.inl (hw _ (List.mem_of_getElem? (i := 37) rfl))) Via.refl e0 (WW.2.1 9 _ _ _ rfl rfl) (g := (mkF m 2 #[.val (.ref so), .val (.int (Int32.ofNat jj))] [(.ref so), (.int (Int32.ofNat jj))])) rfl rfl (hb hby dla_2)
  refine Rch.go st101 ?_
  show Rch p ev below _ T101 (mkF m 5 #[.val (.ref so), .val (.int (Int32.ofNat jj))] [(.int (Int32.ofNat bc)), (.int (Int32.ofNat jj))])
  refine Rch.go (fun _ q => XS.icmpNo X101.here hx rfl (hb hby dla_5) rfl (tlt ((own_lt_N (a := bc) (b := jj) (by omega) (by omega)).mpr hb1.1)).2.2.2 q) ?_
  show Rch p ev below _ T101 (mkF m 8 #[.val (.ref so), .val (.int (Int32.ofNat jj))] [])
  refine Rch.go (fun _ q => XS.aloadN X101.here hx rfl (hb hby dla_8) rfl rfl q) ?_
  show Rch p ev below _ T101 (mkF m 9 #[.val (.ref so), .val (.int (Int32.ofNat jj))] [(.ref so)])
  obtain ⟨T102, X102, e102, st102⟩ := getF X101 hx hZ hown (host := "") (Or.inl (hw _ (List.mem_of_getElem? (i := 33) rfl))) Via.refl e101 (WW.2.1 3 _ _ _ rfl rfl) (g := (mkF m 9 #[.val (.ref so), .val (.int (Int32.ofNat jj))] [(.ref so)])) rfl rfl (hb hby dla_9)
  refine Rch.go st102 ?_
  show Rch p ev below _ T102 (mkF m 12 #[.val (.ref so), .val (.int (Int32.ofNat jj))] [(.int (Int32.ofNat N))])
  refine Rch.go (fun _ q => XS.iloadN X102.here hx rfl (hb hby dla_12) rfl  q) ?_
  show Rch p ev below _ T102 (mkF m 13 #[.val (.ref so), .val (.int (Int32.ofNat jj))] [(.int (Int32.ofNat jj)), (.int (Int32.ofNat N))])
  refine Rch.go (fun _ q => XS.isub X102.here hx rfl (hb hby dla_13) rfl q) ?_
  show Rch p ev below _ T102 (mkF m 14 #[.val (.ref so), .val (.int (Int32.ofNat jj))] [(.int ((Int32.ofNat N) - (Int32.ofNat jj)))])
  rw [show (Int32.ofNat N - Int32.ofNat jj) = (Int32.ofNat (N - jj)) from (own_sub_N (by omega) (by omega))]
  show Rch p ev below _ T102 (mkF m 14 #[.val (.ref so), .val (.int (Int32.ofNat jj))] [(.int (Int32.ofNat (N - jj)))])
  refine Rch.go (fun _ q => XS.aloadN X102.here hx rfl (hb hby dla_14) rfl rfl q) ?_
  show Rch p ev below _ T102 (mkF m 15 #[.val (.ref so), .val (.int (Int32.ofNat jj))] [(.ref so), (.int (Int32.ofNat (N - jj)))])
  obtain ⟨T103, X103, e103, st103⟩ := getF X102 hx hZ hown (host := "") (Or.inl (hw _ (List.mem_of_getElem? (i := 74) rfl))) Via.refl e102 (WW.2.1 6 _ _ _ rfl rfl) (g := (mkF m 15 #[.val (.ref so), .val (.int (Int32.ofNat jj))] [(.ref so), (.int (Int32.ofNat (N - jj)))])) rfl rfl (hb hby dla_15)
  refine Rch.go st103 ?_
  show Rch p ev below _ T103 (mkF m 18 #[.val (.ref so), .val (.int (Int32.ofNat jj))] [(.int (Int32.ofNat fc)), (.int (Int32.ofNat (N - jj)))])
  by_cases hc18 : fc < N - jj
  · skip
    refine Rch.go (fun _ q => XS.icmpNo X103.here hx rfl (hb hby dla_18) rfl (tlt ((own_lt_N (a := fc) (b := N - jj) (by omega) (by omega)).mpr hc18)).2.2.2 q) ?_
    show Rch p ev below _ T103 (mkF m 21 #[.val (.ref so), .val (.int (Int32.ofNat jj))] [])
    refine Rch.go (fun _ q => XS.aloadN X103.here hx rfl (hb hby dla_21) rfl rfl q) ?_
    show Rch p ev below _ T103 (mkF m 22 #[.val (.ref so), .val (.int (Int32.ofNat jj))] [(.ref so)])
    obtain ⟨T104, X104, e104, st104⟩ := getF X103 hx hZ hown (host := "") (Or.inl (hw _ (List.mem_of_getElem? (i := 33) rfl))) Via.refl e103 (WW.2.1 3 _ _ _ rfl rfl) (g := (mkF m 22 #[.val (.ref so), .val (.int (Int32.ofNat jj))] [(.ref so)])) rfl rfl (hb hby dla_22)
    refine Rch.go st104 ?_
    show Rch p ev below _ T104 (mkF m 25 #[.val (.ref so), .val (.int (Int32.ofNat jj))] [(.int (Int32.ofNat N))])
    refine Rch.go (fun _ q => XS.iloadN X104.here hx rfl (hb hby dla_25) rfl  q) ?_
    show Rch p ev below _ T104 (mkF m 26 #[.val (.ref so), .val (.int (Int32.ofNat jj))] [(.int (Int32.ofNat jj)), (.int (Int32.ofNat N))])
    refine Rch.go (fun _ q => XS.isub X104.here hx rfl (hb hby dla_26) rfl q) ?_
    show Rch p ev below _ T104 (mkF m 27 #[.val (.ref so), .val (.int (Int32.ofNat jj))] [(.int ((Int32.ofNat N) - (Int32.ofNat jj)))])
    rw [show (Int32.ofNat N - Int32.ofNat jj) = (Int32.ofNat (N - jj)) from (own_sub_N (by omega) (by omega))]
    show Rch p ev below _ T104 (mkF m 27 #[.val (.ref so), .val (.int (Int32.ofNat jj))] [(.int (Int32.ofNat (N - jj)))])
    refine Rch.go (fun _ q => XS.iloadN X104.here hx rfl (hb hby dla_27) rfl  q) ?_
    show Rch p ev below _ T104 (mkF m 28 #[.val (.ref so), .val (.int (Int32.ofNat jj))] [(.int (Int32.ofNat jj)), (.int (Int32.ofNat (N - jj)))])
    refine Rch.go (fun _ q => XS.icmpNo X104.here hx rfl (hb hby dla_28) rfl (tlt ((own_lt_N (a := N - jj) (b := jj) (by omega) (by omega)).mpr (by omega))).2.1 q) ?_
    show Rch p ev below _ T104 (mkF m 31 #[.val (.ref so), .val (.int (Int32.ofNat jj))] [])
    refine Rch.go (fun _ q => XS.aloadN X104.here hx rfl (hb hby dla_31) rfl rfl q) ?_
    show Rch p ev below _ T104 (mkF m 32 #[.val (.ref so), .val (.int (Int32.ofNat jj))] [(.ref so)])
    obtain ⟨T105, X105, e105, st105⟩ := getF X104 hx hZ hown (host := "") (Or.inl (hw _ (List.mem_of_getElem? (i := 35) rfl))) Via.refl e104 (WW.2.1 4 _ _ _ rfl rfl) (g := (mkF m 32 #[.val (.ref so), .val (.int (Int32.ofNat jj))] [(.ref so)])) rfl rfl (hb hby dla_32)
    refine Rch.go st105 ?_
    show Rch p ev below _ T105 (mkF m 35 #[.val (.ref so), .val (.int (Int32.ofNat jj))] [(.long sm)])
    refine Rch.go (fun _ q => XS.aloadN X105.here hx rfl (hb hby dla_35) rfl rfl q) ?_
    show Rch p ev below _ T105 (mkF m 36 #[.val (.ref so), .val (.int (Int32.ofNat jj))] [(.ref so), (.long sm)])
    refine Rch.go (fun _ q => XS.aloadN X105.here hx rfl (hb hby dla_36) rfl rfl q) ?_
    show Rch p ev below _ T105 (mkF m 37 #[.val (.ref so), .val (.int (Int32.ofNat jj))] [(.ref so), (.ref so), (.long sm)])
    obtain ⟨T106, X106, e106, st106⟩ := getF X105 hx hZ hown (host := "") (Or.inl (hw _ (List.mem_of_getElem? (i := 33) rfl))) Via.refl e105 (WW.2.1 3 _ _ _ rfl rfl) (g := (mkF m 37 #[.val (.ref so), .val (.int (Int32.ofNat jj))] [(.ref so), (.ref so), (.long sm)])) rfl rfl (hb hby dla_37)
    refine Rch.go st106 ?_
    show Rch p ev below _ T106 (mkF m 40 #[.val (.ref so), .val (.int (Int32.ofNat jj))] [(.int (Int32.ofNat N)), (.ref so), (.long sm)])
    refine Rch.go (fun _ q => XS.iloadN X106.here hx rfl (hb hby dla_40) rfl  q) ?_
    show Rch p ev below _ T106 (mkF m 41 #[.val (.ref so), .val (.int (Int32.ofNat jj))] [(.int (Int32.ofNat jj)), (.int (Int32.ofNat N)), (.ref so), (.long sm)])
    refine Rch.go (fun _ q => XS.isub X106.here hx rfl (hb hby dla_41) rfl q) ?_
    show Rch p ev below _ T106 (mkF m 42 #[.val (.ref so), .val (.int (Int32.ofNat jj))] [(.int ((Int32.ofNat N) - (Int32.ofNat jj))), (.ref so), (.long sm)])
    rw [show (Int32.ofNat N - Int32.ofNat jj) = (Int32.ofNat (N - jj)) from (own_sub_N (by omega) (by omega))]
    show Rch p ev below _ T106 (mkF m 42 #[.val (.ref so), .val (.int (Int32.ofNat jj))] [(.int (Int32.ofNat (N - jj))), (.ref so), (.long sm)])
    obtain ⟨cq107, q107, q107'⟩ := Exa.cell WW.1
    obtain ⟨_, _, ⟨T107, L107, k107, n107⟩, -, X107, ⟨Lc107, hQ107, l107, y107, z107⟩, st107⟩ := X106.privateBack hx (y := (⟨"com/example/binflow/binflow/solve/SubsetSums", "first", "(I)J"⟩ : MethodName)) hown (mvT hZ (hw _ (List.mem_of_getElem? (i := 70) rfl))) (mvT hZ (hw _ (List.mem_of_getElem? (i := 71) rfl))) (mvT hZ (own_sel (by decide) (hw _ (List.mem_of_getElem? (i := 8) rfl)) (hw _ (List.mem_of_getElem? (i := 72) rfl)) (hw _ (List.mem_of_getElem? (i := 71) rfl)))) (Cond.privateMethod_at (mvP hZ (hw _ (List.mem_of_getElem? (i := 72) rfl)) (args := #[]))) (mvT hZ (hw _ (List.mem_of_getElem? (i := 73) rfl))) (by decide) (backOf (W := 2) (rmfi0 l Z a0 hw [] so A B e N rc lo ga fc bc (N - jj) h0 n0 Z0 S (by omega) (by omega)) hZ (hw _ (List.mem_of_getElem? (i := 73) rfl)) (hw _ (List.mem_of_getElem? (i := 9) rfl)) (by decide) (by decide)) (g := (mkF m 42 #[.val (.ref so), .val (.int (Int32.ofNat jj))] [(.int (Int32.ofNat (N - jj))), (.ref so), (.long sm)])) rfl (by rw [hml]; rfl) (Steps.refl _) (a := so) (by rw [e106]; exact q107) q107' (argsL := [(.int (Int32.ofNat (N - jj)))]) (rest := [(.long sm)]) (lenOf own_pd3 rfl) rfl (by show 2 * 0 + _ ≤ _; exact Nat.le_of_eq rfl) (hb hby dla_42) (fun _ _ => ⟨rfl, e106, (by decide : 0 + 0 ≤ _), (by decide : 0 + 0 ≤ _)⟩)
    dsimp only [Pt.U, Pt.locs, Pt.cells, Pt.slots] at X107 l107 y107 z107 st107 hQ107
    subst l107 y107 z107
    obtain ⟨rfl, Nc, Sc⟩ := hQ107
    refine Rch.jump st107 ?_
    show Rch p ev below _ T107 (mkF m 45 #[.val (.ref so), .val (.int (Int32.ofNat jj))] [(.long (own_L (own_F A.toInt B.toInt e (N - jj)))), (.long sm)])
    have N107 := Fr.app N0 Nc
    refine Rch.go (fun _ q => XS.lsub X107.here hx rfl (hb hby dla_45) rfl q) ?_
    show Rch p ev below _ T107 (mkF m 46 #[.val (.ref so), .val (.int (Int32.ofNat jj))] [(.long (sm - (own_L (own_F A.toInt B.toInt e (N - jj)))))])
    refine Rch.retJ X107 hx hlk Bd.returns (hb hby dla_46) (by decide) (by decide) ?_
    unfold Qrmla1
    refine ⟨?_, N107, Sc⟩
    rw [hsm, own_L_sub]
  · skip
    refine Rch.go (fun _ q => XS.icmpYes X103.here hx rfl (pc0 := 18) (pc' := 31) rfl (hb hby dla_18) rfl (flt ((mt (own_lt_N (a := fc) (b := N - jj) (by omega) (by omega)).mp hc18))).2.2.2 (by decide) (by decide) q) ?_
    show Rch p ev below _ T103 (mkF m 31 #[.val (.ref so), .val (.int (Int32.ofNat jj))] [])
    refine Rch.go (fun _ q => XS.aloadN X103.here hx rfl (hb hby dla_31) rfl rfl q) ?_
    show Rch p ev below _ T103 (mkF m 32 #[.val (.ref so), .val (.int (Int32.ofNat jj))] [(.ref so)])
    obtain ⟨T108, X108, e108, st108⟩ := getF X103 hx hZ hown (host := "") (Or.inl (hw _ (List.mem_of_getElem? (i := 35) rfl))) Via.refl e103 (WW.2.1 4 _ _ _ rfl rfl) (g := (mkF m 32 #[.val (.ref so), .val (.int (Int32.ofNat jj))] [(.ref so)])) rfl rfl (hb hby dla_32)
    refine Rch.go st108 ?_
    show Rch p ev below _ T108 (mkF m 35 #[.val (.ref so), .val (.int (Int32.ofNat jj))] [(.long sm)])
    refine Rch.go (fun _ q => XS.aloadN X108.here hx rfl (hb hby dla_35) rfl rfl q) ?_
    show Rch p ev below _ T108 (mkF m 36 #[.val (.ref so), .val (.int (Int32.ofNat jj))] [(.ref so), (.long sm)])
    refine Rch.go (fun _ q => XS.aloadN X108.here hx rfl (hb hby dla_36) rfl rfl q) ?_
    show Rch p ev below _ T108 (mkF m 37 #[.val (.ref so), .val (.int (Int32.ofNat jj))] [(.ref so), (.ref so), (.long sm)])
    obtain ⟨T109, X109, e109, st109⟩ := getF X108 hx hZ hown (host := "") (Or.inl (hw _ (List.mem_of_getElem? (i := 33) rfl))) Via.refl e108 (WW.2.1 3 _ _ _ rfl rfl) (g := (mkF m 37 #[.val (.ref so), .val (.int (Int32.ofNat jj))] [(.ref so), (.ref so), (.long sm)])) rfl rfl (hb hby dla_37)
    refine Rch.go st109 ?_
    show Rch p ev below _ T109 (mkF m 40 #[.val (.ref so), .val (.int (Int32.ofNat jj))] [(.int (Int32.ofNat N)), (.ref so), (.long sm)])
    refine Rch.go (fun _ q => XS.iloadN X109.here hx rfl (hb hby dla_40) rfl  q) ?_
    show Rch p ev below _ T109 (mkF m 41 #[.val (.ref so), .val (.int (Int32.ofNat jj))] [(.int (Int32.ofNat jj)), (.int (Int32.ofNat N)), (.ref so), (.long sm)])
    refine Rch.go (fun _ q => XS.isub X109.here hx rfl (hb hby dla_41) rfl q) ?_
    show Rch p ev below _ T109 (mkF m 42 #[.val (.ref so), .val (.int (Int32.ofNat jj))] [(.int ((Int32.ofNat N) - (Int32.ofNat jj))), (.ref so), (.long sm)])
    rw [show (Int32.ofNat N - Int32.ofNat jj) = (Int32.ofNat (N - jj)) from (own_sub_N (by omega) (by omega))]
    show Rch p ev below _ T109 (mkF m 42 #[.val (.ref so), .val (.int (Int32.ofNat jj))] [(.int (Int32.ofNat (N - jj))), (.ref so), (.long sm)])
    obtain ⟨cq110, q110, q110'⟩ := Exa.cell WW.1
    obtain ⟨_, _, ⟨T110, L110, k110, n110⟩, -, X110, ⟨Lc110, hQ110, l110, y110, z110⟩, st110⟩ := X109.privateBack hx (y := (⟨"com/example/binflow/binflow/solve/SubsetSums", "first", "(I)J"⟩ : MethodName)) hown (mvT hZ (hw _ (List.mem_of_getElem? (i := 70) rfl))) (mvT hZ (hw _ (List.mem_of_getElem? (i := 71) rfl))) (mvT hZ (own_sel (by decide) (hw _ (List.mem_of_getElem? (i := 8) rfl)) (hw _ (List.mem_of_getElem? (i := 72) rfl)) (hw _ (List.mem_of_getElem? (i := 71) rfl)))) (Cond.privateMethod_at (mvP hZ (hw _ (List.mem_of_getElem? (i := 72) rfl)) (args := #[]))) (mvT hZ (hw _ (List.mem_of_getElem? (i := 73) rfl))) (by decide) (backOf (W := 2) (rmfi0 l Z a0 hw [] so A B e N rc lo ga fc bc (N - jj) h0 n0 Z0 S (by omega) (by omega)) hZ (hw _ (List.mem_of_getElem? (i := 73) rfl)) (hw _ (List.mem_of_getElem? (i := 9) rfl)) (by decide) (by decide)) (g := (mkF m 42 #[.val (.ref so), .val (.int (Int32.ofNat jj))] [(.int (Int32.ofNat (N - jj))), (.ref so), (.long sm)])) rfl (by rw [hml]; rfl) (Steps.refl _) (a := so) (by rw [e109]; exact q110) q110' (argsL := [(.int (Int32.ofNat (N - jj)))]) (rest := [(.long sm)]) (lenOf own_pd3 rfl) rfl (by show 2 * 0 + _ ≤ _; exact Nat.le_of_eq rfl) (hb hby dla_42) (fun _ _ => ⟨rfl, e109, (by decide : 0 + 0 ≤ _), (by decide : 0 + 0 ≤ _)⟩)
    dsimp only [Pt.U, Pt.locs, Pt.cells, Pt.slots] at X110 l110 y110 z110 st110 hQ110
    subst l110 y110 z110
    obtain ⟨rfl, Nc, Sc⟩ := hQ110
    refine Rch.jump st110 ?_
    show Rch p ev below _ T110 (mkF m 45 #[.val (.ref so), .val (.int (Int32.ofNat jj))] [(.long (own_L (own_F A.toInt B.toInt e (N - jj)))), (.long sm)])
    have N110 := Fr.app N0 Nc
    refine Rch.go (fun _ q => XS.lsub X110.here hx rfl (hb hby dla_45) rfl q) ?_
    show Rch p ev below _ T110 (mkF m 46 #[.val (.ref so), .val (.int (Int32.ofNat jj))] [(.long (sm - (own_L (own_F A.toInt B.toInt e (N - jj)))))])
    refine Rch.retJ X110 hx hlk Bd.returns (hb hby dla_46) (by decide) (by decide) ?_
    unfold Qrmla1
    refine ⟨?_, N110, Sc⟩
    rw [hsm, own_L_sub]
def Qrmla (Z : State) (so : Addr) (A B : Int32) (e N : Nat) (rc lo : Int32) (ga : Int64) (jj : Nat) (h0 : Heap) (n0 : Nat) : Option Value → Heap → List Loc → Prop := fun v h L => v = some (.long (own_L ((own_F A.toInt B.toInt e N) - (own_F A.toInt B.toInt e (N - jj))))) ∧ Fr n0 L ∧ own_Sg Z h n0 so A B e N rc lo ga
set_option maxRecDepth 65536 in
set_option maxHeartbeats 40000000 in
theorem rmla (l : Launch) (Z : State) (a0 : Array Value) (hw : ∀ d ∈ tables_1, d.before a0 Z = true) (ws : List Jvm.Cond) (so : Addr) (A B : Int32) (e N : Nat) (rc lo : Int32) (ga : Int64) (jj : Nat) (h0 : Heap) (n0 : Nat) (Z0 : n0 ≤ h0.size) (S : own_Sg Z h0 n0 so A B e N rc lo ga) (hj : jj ≤ N) :
    MetFree l (⟨"com/example/binflow/binflow/solve/SubsetSums", "last", "(I)J"⟩ : MethodName) (head1 (Jvm.Cond.code (⟨"com/example/binflow/binflow/solve/SubsetSums", "last", "(I)J"⟩ : MethodName) prog_23_method_15_code 2 (some .long) :: ws) ({ frames := 2, cells := 0, slots := 0, locals := 30 } : Room)) (fun a U => a = #[(.ref so), (.int (Int32.ofNat jj))] ∧ Z.Warmed39 U.vm ∧ U.heap = h0) (fun _ _ _ _ _ => True) (fun _ U o U' => ∃ v L, o = .returned v ∧ Qrmla Z so A B e N rc lo ga jj h0 n0 v U'.heap L ∧ FrameEnd U o U' L ({ frames := 2, cells := 0, slots := 0, locals := 30 } : Room).cells ({ frames := 2, cells := 0, slots := 0, locals := 30 } : Room).slots) := by
  obtain ⟨fc, bc, S⟩ := S
  by_cases hb : bc < jj ∧ (N - jj ≤ fc ∨ N - jj < jj)
  · exact rmla1 l Z a0 hw ws so A B e N rc lo ga fc bc jj h0 n0 Z0 S hj hb
  · exact rmla0b l Z a0 hw ws so A B e N rc lo ga fc bc jj h0 n0 Z0 S hj hb
theorem own_Sg_exa {Z : State} {h : Heap} {n0 : Nat} {so : Addr} {A B : Int32} {e N : Nat} {rc lo : Int32} {ga : Int64} (S : own_Sg Z h n0 so A B e N rc lo ga) : Exa Z h so "com/example/binflow/binflow/solve/SubsetSums" := by
  obtain ⟨fc, bc, rs, rt, fs, bs, kr, kt, kf, kb, rl, tl, fl, bl, zl, fr, br, los, sm, gb, WW, -⟩ := S
  exact WW.1
theorem own_Sg_le {Z : State} {h : Heap} {n0 : Nat} {so : Addr} {A B : Int32} {e N : Nat} {rc lo : Int32} {ga : Int64} (S : own_Sg Z h n0 so A B e N rc lo ga) : n0 ≤ h.size := by
  obtain ⟨fc, bc, rs, rt, fs, bs, kr, kt, kf, kb, rl, tl, fl, bl, zl, fr, br, los, sm, gb, WW, -⟩ := S
  exact WW.2.2.2.2.2.2.1.2.2.2.2.2
theorem own_Sg_st {Z : State} {h : Heap} {n0 : Nat} {so : Addr} {A B : Int32} {e N : Nat} {rc lo : Int32} {ga : Int64} (S : own_Sg Z h n0 so A B e N rc lo ga) : 0 ≤ A.toInt ∧ 0 ≤ B.toInt ∧ 1 ≤ e ∧ e ≤ N ∧ N ≤ 8 := by
  obtain ⟨fc, bc, rs, rt, fs, bs, kr, kt, kf, kb, rl, tl, fl, bl, zl, fr, br, los, sm, gb, WW, Is, -⟩ := S
  exact ⟨Is.1, Is.2.1, Is.2.2.1, Is.2.2.2.1, Is.2.2.2.2.1⟩
theorem own_Fb (A B : Int32) (e : Nat) (hA : 0 ≤ A.toInt) (hB : 0 ≤ B.toInt) (i : Nat) (hi : i ≤ 8) : 0 ≤ own_F A.toInt B.toInt e i ∧ own_F A.toInt B.toInt e i ≤ 17179869184 := by
  have a := rng32 A
  have b := rng32 B
  have r := own_F_rng (e := e) hA hB a.2 b.2 i
  omega
theorem own_l0 : (0 : Int64) = own_L 0 := by decide
theorem own_lF0 (A B : Int) (e : Nat) : (0 : Int64) = own_L (own_F A B e 0) := own_l0
theorem own_lc_lt {v : Int} {w : Int64} (h1 : -9223372036854775808 ≤ v) (h2 : v < 9223372036854775808) : lcmpW (own_L v) w < 0 ↔ v < w.toInt := by rw [lw_lt, Int64.lt_iff_toInt_lt, own_L_int v h1 h2]
theorem own_lc_gt {v : Int} {w : Int64} (h1 : -9223372036854775808 ≤ v) (h2 : v < 9223372036854775808) : 0 < lcmpW (own_L v) w ↔ w.toInt < v := by rw [lw_gt, Int64.lt_iff_toInt_lt, own_L_int v h1 h2]
theorem own_lc_gt' {v : Int} {w : Int64} (h1 : -9223372036854775808 ≤ v) (h2 : v < 9223372036854775808) : 0 < lcmpW w (own_L v) ↔ v < w.toInt := by rw [lw_gt, Int64.lt_iff_toInt_lt, own_L_int v h1 h2]
theorem own_lc_lt' {v : Int} {w : Int64} (h1 : -9223372036854775808 ≤ v) (h2 : v < 9223372036854775808) : lcmpW w (own_L v) < 0 ↔ w.toInt < v := by rw [lw_lt, Int64.lt_iff_toInt_lt, own_L_int v h1 h2]
theorem own_pn6 : plainFor (⟨"com/example/binflow/binflow/solve/SubsetSums", "largest", "(I)J"⟩ : MethodName) = true := by first | exact plainFor_of_name (by first | (simp [plainName, overriddenIn]; done) | decide +kernel) | decide +kernel
theorem dlg_0 : decode prog_23_method_12_code 0 = .ok (.aload_n 0, 1) := by decide +kernel
theorem dlg_1 : decode prog_23_method_12_code 1 = .ok (.getfield 68, 3) := by decide +kernel
theorem dlg_4 : decode prog_23_method_12_code 4 = .ok (.iconst (-1), 1) := by decide +kernel
theorem dlg_5 : decode prog_23_method_12_code 5 = .ok (.if_icmp .eq 27, 3) := by decide +kernel
theorem dlg_8 : decode prog_23_method_12_code 8 = .ok (.aload_n 0, 1) := by decide +kernel
theorem dlg_9 : decode prog_23_method_12_code 9 = .ok (.getfield 68, 3) := by decide +kernel
theorem dlg_12 : decode prog_23_method_12_code 12 = .ok (.iload_n 1, 1) := by decide +kernel
theorem dlg_13 : decode prog_23_method_12_code 13 = .ok (.if_icmp .ge 19, 3) := by decide +kernel
theorem dlg_16 : decode prog_23_method_12_code 16 = .ok (.aload_n 0, 1) := by decide +kernel
theorem dlg_17 : decode prog_23_method_12_code 17 = .ok (.iload_n 1, 1) := by decide +kernel
theorem dlg_18 : decode prog_23_method_12_code 18 = .ok (.iconst 1, 1) := by decide +kernel
theorem dlg_19 : decode prog_23_method_12_code 19 = .ok (.iadd, 1) := by decide +kernel
theorem dlg_20 : decode prog_23_method_12_code 20 = .ok (.invokevirtual 97, 3) := by decide +kernel
theorem dlg_23 : decode prog_23_method_12_code 23 = .ok (.aload_n 0, 1) := by decide +kernel
theorem dlg_24 : decode prog_23_method_12_code 24 = .ok (.getfield 71, 3) := by decide +kernel
theorem dlg_27 : decode prog_23_method_12_code 27 = .ok (.i2l, 1) := by decide +kernel
theorem dlg_28 : decode prog_23_method_12_code 28 = .ok (.lsub, 1) := by decide +kernel
theorem dlg_29 : decode prog_23_method_12_code 29 = .ok (.goto 8, 3) := by decide +kernel
theorem dlg_32 : decode prog_23_method_12_code 32 = .ok (.aload_n 0, 1) := by decide +kernel
theorem dlg_33 : decode prog_23_method_12_code 33 = .ok (.iload_n 1, 1) := by decide +kernel
theorem dlg_34 : decode prog_23_method_12_code 34 = .ok (.invokevirtual 97, 3) := by decide +kernel
theorem dlg_37 : decode prog_23_method_12_code 37 = .ok (.lreturn, 1) := by decide +kernel
theorem own_ef11 (m : MethodId) (x0 : Addr) (x1 : Int32) : entryFrame m #[(.ref x0), (.int x1)] 2 = mkF m 0 #[.val (.ref x0), .val (.int x1)] [] := by first | (simp [entryFrame, mkF, argsToLocals, Value.category, maxLocals]; done) | rfl
def Qrmlg (Z : State) (so : Addr) (A B : Int32) (e N : Nat) (rc : Int32) (ga : Int64) (jj : Nat) (h0 : Heap) (n0 : Nat) : Option Value → Heap → List Loc → Prop := fun v h L => v = some (.long (own_L (own_F A.toInt B.toInt e jj))) ∧ Fr n0 L ∧ own_Sg Z h n0 so A B e N rc (-1 : Int32) ga
set_option maxRecDepth 65536 in
set_option maxHeartbeats 40000000 in
theorem rmlg (l : Launch) (Z : State) (a0 : Array Value) (hw : ∀ d ∈ tables_1, d.before a0 Z = true) (ws : List Jvm.Cond) (so : Addr) (A B : Int32) (e N : Nat) (rc : Int32) (ga : Int64) (jj : Nat) (h0 : Heap) (n0 : Nat) (Z0 : n0 ≤ h0.size) (S : own_Sg Z h0 n0 so A B e N rc (-1 : Int32) ga) (hj : jj ≤ N) :
    MetFree l (⟨"com/example/binflow/binflow/solve/SubsetSums", "largest", "(I)J"⟩ : MethodName) (head1 (Jvm.Cond.code (⟨"com/example/binflow/binflow/solve/SubsetSums", "largest", "(I)J"⟩ : MethodName) prog_23_method_12_code 2 (some .long) :: ws) ({ frames := 2, cells := 0, slots := 0, locals := 28 } : Room)) (fun a U => a = #[(.ref so), (.int (Int32.ofNat jj))] ∧ Z.Warmed39 U.vm ∧ U.heap = h0) (fun _ _ _ _ _ => True) (fun _ U o U' => ∃ v L, o = .returned v ∧ (Qrmlg Z so A B e N rc ga jj h0 n0) v U'.heap L ∧ FrameEnd U o U' L ({ frames := 2, cells := 0, slots := 0, locals := 28 } : Room).cells ({ frames := 2, cells := 0, slots := 0, locals := 28 } : Room).slots) := by
  refine MetFree.of_bodySF own_pn6 hisR ?_
  intro p ev s m args below meth c s₁ Bd hml0 hP hK
  obtain ⟨rfl, hZ, hh⟩ := hP
  have hx := Bd.exec
  have hby := Bd.bytes
  have hlk := Bd.notSynchronized
  have hml : c.maxLocals = 2 := hml0
  have hown : s.vm.findClass "com/example/binflow/binflow/solve/SubsetSums" = some m.cls := findClass_of_methodNamed Bd.named
  have hnm := (name_of_methodNamed Bd.named Bd.method).1
  have X0 : Stand p l ev ({ frames := 2, cells := 0, slots := 0, locals := 28 } : Room) s m #[(.ref so), (.int (Int32.ofNat jj))] below meth c s₁ [] 0 0 := Stand.of_body Bd
  have e0 : s₁.heap = h0 := by rw [← hh, Bd.state]; rfl
  have N0 := Fr.nil n0
  refine Rch.entry (G := (EndQ (Qrmlg Z so A B e N rc ga jj h0 n0) s ({ frames := 2, cells := 0, slots := 0, locals := 28 } : Room).cells ({ frames := 2, cells := 0, slots := 0, locals := 28 } : Room).slots)) (own_ef11 m so (Int32.ofNat jj)) ?_
  show Rch p ev below _ s₁ (mkF m 0 #[.val (.ref so), .val (.int (Int32.ofNat jj))] [])
  obtain ⟨fc, bc, S1⟩ := id S
  obtain ⟨rs, rt, fs, bs, kr, kt, kf, kb, rl, tl, fl, bl, zl, fr, br, los, sm, gb, WW, Is, If, Ib⟩ := S1
  obtain ⟨hA, hB, he1, heN, hN8, hrc, r0, r1, t0, t1, zN, z16, hsm, hrl2, htl2⟩ := id Is
  have hfcN := If.1
  have hbcN := Ib.1
  refine Rch.go (fun _ q => XS.aloadN X0.here hx rfl (hb hby dlg_0) rfl rfl q) ?_
  show Rch p ev below _ s₁ (mkF m 1 #[.val (.ref so), .val (.int (Int32.ofNat jj))] [(.ref so)])
  obtain ⟨T101, X101, e101, st101⟩ := getF X0 hx hZ hown (host := "") (Or.inl (hw _ (List.mem_of_getElem? (i := 62) rfl))) Via.refl e0 (WW.2.1 12 _ _ _ rfl rfl) (g := (mkF m 1 #[.val (.ref so), .val (.int (Int32.ofNat jj))] [(.ref so)])) rfl rfl (hb hby dlg_1)
  refine Rch.go st101 ?_
  show Rch p ev below _ T101 (mkF m 4 #[.val (.ref so), .val (.int (Int32.ofNat jj))] [(.int (-1 : Int32))])
  refine Rch.go (fun _ q => XS.iconst X101.here hx rfl (hb hby dlg_4) q) ?_
  show Rch p ev below _ T101 (mkF m 5 #[.val (.ref so), .val (.int (Int32.ofNat jj))] [(.int (-1 : Int32)), (.int (-1 : Int32))])
  refine Rch.go (fun _ q => XS.icmpYes X101.here hx rfl (pc0 := 5) (pc' := 32) rfl (hb hby dlg_5) rfl (teq (by decide)).1 (by decide) (by decide) q) ?_
  show Rch p ev below _ T101 (mkF m 32 #[.val (.ref so), .val (.int (Int32.ofNat jj))] [])
  refine Rch.go (fun _ q => XS.aloadN X101.here hx rfl (hb hby dlg_32) rfl rfl q) ?_
  show Rch p ev below _ T101 (mkF m 33 #[.val (.ref so), .val (.int (Int32.ofNat jj))] [(.ref so)])
  refine Rch.go (fun _ q => XS.iloadN X101.here hx rfl (hb hby dlg_33) rfl  q) ?_
  show Rch p ev below _ T101 (mkF m 34 #[.val (.ref so), .val (.int (Int32.ofNat jj))] [(.int (Int32.ofNat jj)), (.ref so)])
  obtain ⟨cq102, q102, q102'⟩ := Exa.cell (own_Sg_exa S)
  obtain ⟨_, _, ⟨T102, L102, k102, n102⟩, -, X102, ⟨Lc102, hQ102, l102, y102, z102⟩, st102⟩ := X101.privateBack hx (y := (⟨"com/example/binflow/binflow/solve/SubsetSums", "first", "(I)J"⟩ : MethodName)) hown (mvT hZ (hw _ (List.mem_of_getElem? (i := 70) rfl))) (mvT hZ (hw _ (List.mem_of_getElem? (i := 71) rfl))) (mvT hZ (own_sel (by decide) (hw _ (List.mem_of_getElem? (i := 8) rfl)) (hw _ (List.mem_of_getElem? (i := 72) rfl)) (hw _ (List.mem_of_getElem? (i := 71) rfl)))) (Cond.privateMethod_at (mvP hZ (hw _ (List.mem_of_getElem? (i := 72) rfl)) (args := #[]))) (mvT hZ (hw _ (List.mem_of_getElem? (i := 73) rfl))) (by decide) (backOf (W := 0) (rmfi l Z a0 hw [] so A B e N rc (-1 : Int32) ga jj h0 n0 (own_Sg_le S) S hj) hZ (hw _ (List.mem_of_getElem? (i := 73) rfl)) (hw _ (List.mem_of_getElem? (i := 9) rfl)) (by decide) (by decide)) (g := (mkF m 34 #[.val (.ref so), .val (.int (Int32.ofNat jj))] [(.int (Int32.ofNat jj)), (.ref so)])) rfl (by rw [hml]; rfl) (Steps.refl _) (a := so) (by rw [e101]; exact q102) q102' (argsL := [(.int (Int32.ofNat jj))]) (rest := []) (lenOf own_pd3 rfl) rfl (by show 2 * 0 + _ ≤ _; exact Nat.le_of_eq rfl) (hb hby dlg_34) (fun _ _ => ⟨rfl, e101, (by decide : 0 + 0 ≤ _), (by decide : 0 + 0 ≤ _)⟩)
  dsimp only [Pt.U, Pt.locs, Pt.cells, Pt.slots] at X102 l102 y102 z102 st102 hQ102
  subst l102 y102 z102
  obtain ⟨rfl, Nc, Sc⟩ := hQ102
  refine Rch.jump st102 ?_
  show Rch p ev below _ T102 (mkF m 37 #[.val (.ref so), .val (.int (Int32.ofNat jj))] [(.long (own_L (own_F A.toInt B.toInt e jj)))])
  have N102 := Fr.app N0 Nc
  have S102 := Sc
  refine Rch.retJ X102 hx hlk Bd.returns (hb hby dlg_37) (by decide) (by decide) ?_
  unfold Qrmlg
  exact ⟨rfl, N102, S102⟩
theorem own_pn7 : plainFor (⟨"com/example/binflow/binflow/solve/SubsetSums", "smallest", "(I)J"⟩ : MethodName) = true := by first | exact plainFor_of_name (by first | (simp [plainName, overriddenIn]; done) | decide +kernel) | decide +kernel
theorem dsm_0 : decode prog_23_method_13_code 0 = .ok (.aload_n 0, 1) := by decide +kernel
theorem dsm_1 : decode prog_23_method_13_code 1 = .ok (.getfield 68, 3) := by decide +kernel
theorem dsm_4 : decode prog_23_method_13_code 4 = .ok (.iconst (-1), 1) := by decide +kernel
theorem dsm_5 : decode prog_23_method_13_code 5 = .ok (.if_icmp .eq 32, 3) := by decide +kernel
theorem dsm_8 : decode prog_23_method_13_code 8 = .ok (.aload_n 0, 1) := by decide +kernel
theorem dsm_9 : decode prog_23_method_13_code 9 = .ok (.getfield 68, 3) := by decide +kernel
theorem dsm_12 : decode prog_23_method_13_code 12 = .ok (.aload_n 0, 1) := by decide +kernel
theorem dsm_13 : decode prog_23_method_13_code 13 = .ok (.getfield 27, 3) := by decide +kernel
theorem dsm_16 : decode prog_23_method_13_code 16 = .ok (.iload_n 1, 1) := by decide +kernel
theorem dsm_17 : decode prog_23_method_13_code 17 = .ok (.isub, 1) := by decide +kernel
theorem dsm_18 : decode prog_23_method_13_code 18 = .ok (.if_icmp .lt 19, 3) := by decide +kernel
theorem dsm_21 : decode prog_23_method_13_code 21 = .ok (.aload_n 0, 1) := by decide +kernel
theorem dsm_22 : decode prog_23_method_13_code 22 = .ok (.iload_n 1, 1) := by decide +kernel
theorem dsm_23 : decode prog_23_method_13_code 23 = .ok (.iconst 1, 1) := by decide +kernel
theorem dsm_24 : decode prog_23_method_13_code 24 = .ok (.iadd, 1) := by decide +kernel
theorem dsm_25 : decode prog_23_method_13_code 25 = .ok (.invokevirtual 100, 3) := by decide +kernel
theorem dsm_28 : decode prog_23_method_13_code 28 = .ok (.aload_n 0, 1) := by decide +kernel
theorem dsm_29 : decode prog_23_method_13_code 29 = .ok (.getfield 71, 3) := by decide +kernel
theorem dsm_32 : decode prog_23_method_13_code 32 = .ok (.i2l, 1) := by decide +kernel
theorem dsm_33 : decode prog_23_method_13_code 33 = .ok (.lsub, 1) := by decide +kernel
theorem dsm_34 : decode prog_23_method_13_code 34 = .ok (.goto 8, 3) := by decide +kernel
theorem dsm_37 : decode prog_23_method_13_code 37 = .ok (.aload_n 0, 1) := by decide +kernel
theorem dsm_38 : decode prog_23_method_13_code 38 = .ok (.iload_n 1, 1) := by decide +kernel
theorem dsm_39 : decode prog_23_method_13_code 39 = .ok (.invokevirtual 100, 3) := by decide +kernel
theorem dsm_42 : decode prog_23_method_13_code 42 = .ok (.lreturn, 1) := by decide +kernel
theorem own_ef12 (m : MethodId) (x0 : Addr) (x1 : Int32) : entryFrame m #[(.ref x0), (.int x1)] 2 = mkF m 0 #[.val (.ref x0), .val (.int x1)] [] := by first | (simp [entryFrame, mkF, argsToLocals, Value.category, maxLocals]; done) | rfl
def Qrmsm (Z : State) (so : Addr) (A B : Int32) (e N : Nat) (rc : Int32) (ga : Int64) (jj : Nat) (h0 : Heap) (n0 : Nat) : Option Value → Heap → List Loc → Prop := fun v h L => v = some (.long (own_L ((own_F A.toInt B.toInt e N) - (own_F A.toInt B.toInt e (N - jj))))) ∧ Fr n0 L ∧ own_Sg Z h n0 so A B e N rc (-1 : Int32) ga
set_option maxRecDepth 65536 in
set_option maxHeartbeats 40000000 in
theorem rmsm (l : Launch) (Z : State) (a0 : Array Value) (hw : ∀ d ∈ tables_1, d.before a0 Z = true) (ws : List Jvm.Cond) (so : Addr) (A B : Int32) (e N : Nat) (rc : Int32) (ga : Int64) (jj : Nat) (h0 : Heap) (n0 : Nat) (Z0 : n0 ≤ h0.size) (S : own_Sg Z h0 n0 so A B e N rc (-1 : Int32) ga) (hj : jj ≤ N) :
    MetFree l (⟨"com/example/binflow/binflow/solve/SubsetSums", "smallest", "(I)J"⟩ : MethodName) (head1 (Jvm.Cond.code (⟨"com/example/binflow/binflow/solve/SubsetSums", "smallest", "(I)J"⟩ : MethodName) prog_23_method_13_code 2 (some .long) :: ws) ({ frames := 3, cells := 0, slots := 0, locals := 43 } : Room)) (fun a U => a = #[(.ref so), (.int (Int32.ofNat jj))] ∧ Z.Warmed39 U.vm ∧ U.heap = h0) (fun _ _ _ _ _ => True) (fun _ U o U' => ∃ v L, o = .returned v ∧ (Qrmsm Z so A B e N rc ga jj h0 n0) v U'.heap L ∧ FrameEnd U o U' L ({ frames := 3, cells := 0, slots := 0, locals := 43 } : Room).cells ({ frames := 3, cells := 0, slots := 0, locals := 43 } : Room).slots) := by
  refine MetFree.of_bodySF own_pn7 hisR ?_
  intro p ev s m args below meth c s₁ Bd hml0 hP hK
  obtain ⟨rfl, hZ, hh⟩ := hP
  have hx := Bd.exec
  have hby := Bd.bytes
  have hlk := Bd.notSynchronized
  have hml : c.maxLocals = 2 := hml0
  have hown : s.vm.findClass "com/example/binflow/binflow/solve/SubsetSums" = some m.cls := findClass_of_methodNamed Bd.named
  have hnm := (name_of_methodNamed Bd.named Bd.method).1
  have X0 : Stand p l ev ({ frames := 3, cells := 0, slots := 0, locals := 43 } : Room) s m #[(.ref so), (.int (Int32.ofNat jj))] below meth c s₁ [] 0 0 := Stand.of_body Bd
  have e0 : s₁.heap = h0 := by rw [← hh, Bd.state]; rfl
  have N0 := Fr.nil n0
  refine Rch.entry (G := (EndQ (Qrmsm Z so A B e N rc ga jj h0 n0) s ({ frames := 3, cells := 0, slots := 0, locals := 43 } : Room).cells ({ frames := 3, cells := 0, slots := 0, locals := 43 } : Room).slots)) (own_ef12 m so (Int32.ofNat jj)) ?_
  show Rch p ev below _ s₁ (mkF m 0 #[.val (.ref so), .val (.int (Int32.ofNat jj))] [])
  obtain ⟨fc, bc, S1⟩ := id S
  obtain ⟨rs, rt, fs, bs, kr, kt, kf, kb, rl, tl, fl, bl, zl, fr, br, los, sm, gb, WW, Is, If, Ib⟩ := S1
  obtain ⟨hA, hB, he1, heN, hN8, hrc, r0, r1, t0, t1, zN, z16, hsm, hrl2, htl2⟩ := id Is
  have hfcN := If.1
  have hbcN := Ib.1
  refine Rch.go (fun _ q => XS.aloadN X0.here hx rfl (hb hby dsm_0) rfl rfl q) ?_
  show Rch p ev below _ s₁ (mkF m 1 #[.val (.ref so), .val (.int (Int32.ofNat jj))] [(.ref so)])
  obtain ⟨T101, X101, e101, st101⟩ := getF X0 hx hZ hown (host := "") (Or.inl (hw _ (List.mem_of_getElem? (i := 62) rfl))) Via.refl e0 (WW.2.1 12 _ _ _ rfl rfl) (g := (mkF m 1 #[.val (.ref so), .val (.int (Int32.ofNat jj))] [(.ref so)])) rfl rfl (hb hby dsm_1)
  refine Rch.go st101 ?_
  show Rch p ev below _ T101 (mkF m 4 #[.val (.ref so), .val (.int (Int32.ofNat jj))] [(.int (-1 : Int32))])
  refine Rch.go (fun _ q => XS.iconst X101.here hx rfl (hb hby dsm_4) q) ?_
  show Rch p ev below _ T101 (mkF m 5 #[.val (.ref so), .val (.int (Int32.ofNat jj))] [(.int (-1 : Int32)), (.int (-1 : Int32))])
  refine Rch.go (fun _ q => XS.icmpYes X101.here hx rfl (pc0 := 5) (pc' := 37) rfl (hb hby dsm_5) rfl (teq (by decide)).1 (by decide) (by decide) q) ?_
  show Rch p ev below _ T101 (mkF m 37 #[.val (.ref so), .val (.int (Int32.ofNat jj))] [])
  refine Rch.go (fun _ q => XS.aloadN X101.here hx rfl (hb hby dsm_37) rfl rfl q) ?_
  show Rch p ev below _ T101 (mkF m 38 #[.val (.ref so), .val (.int (Int32.ofNat jj))] [(.ref so)])
  refine Rch.go (fun _ q => XS.iloadN X101.here hx rfl (hb hby dsm_38) rfl  q) ?_
  show Rch p ev below _ T101 (mkF m 39 #[.val (.ref so), .val (.int (Int32.ofNat jj))] [(.int (Int32.ofNat jj)), (.ref so)])
  obtain ⟨cq102, q102, q102'⟩ := Exa.cell (own_Sg_exa S)
  obtain ⟨_, _, ⟨T102, L102, k102, n102⟩, -, X102, ⟨Lc102, hQ102, l102, y102, z102⟩, st102⟩ := X101.privateBack hx (y := (⟨"com/example/binflow/binflow/solve/SubsetSums", "last", "(I)J"⟩ : MethodName)) hown (mvT hZ (hw _ (List.mem_of_getElem? (i := 76) rfl))) (mvT hZ (hw _ (List.mem_of_getElem? (i := 77) rfl))) (mvT hZ (own_sel (by decide) (hw _ (List.mem_of_getElem? (i := 8) rfl)) (hw _ (List.mem_of_getElem? (i := 78) rfl)) (hw _ (List.mem_of_getElem? (i := 77) rfl)))) (Cond.privateMethod_at (mvP hZ (hw _ (List.mem_of_getElem? (i := 78) rfl)) (args := #[]))) (mvT hZ (hw _ (List.mem_of_getElem? (i := 79) rfl))) (by decide) (backOf (W := 0) (rmla l Z a0 hw [] so A B e N rc (-1 : Int32) ga jj h0 n0 (own_Sg_le S) S hj) hZ (hw _ (List.mem_of_getElem? (i := 79) rfl)) (hw _ (List.mem_of_getElem? (i := 9) rfl)) (by decide) (by decide)) (g := (mkF m 39 #[.val (.ref so), .val (.int (Int32.ofNat jj))] [(.int (Int32.ofNat jj)), (.ref so)])) rfl (by rw [hml]; rfl) (Steps.refl _) (a := so) (by rw [e101]; exact q102) q102' (argsL := [(.int (Int32.ofNat jj))]) (rest := []) (lenOf own_pd3 rfl) rfl (by show 2 * 0 + _ ≤ _; exact Nat.le_of_eq rfl) (hb hby dsm_39) (fun _ _ => ⟨rfl, e101, (by decide : 0 + 0 ≤ _), (by decide : 0 + 0 ≤ _)⟩)
  dsimp only [Pt.U, Pt.locs, Pt.cells, Pt.slots] at X102 l102 y102 z102 st102 hQ102
  subst l102 y102 z102
  obtain ⟨rfl, Nc, Sc⟩ := hQ102
  refine Rch.jump st102 ?_
  show Rch p ev below _ T102 (mkF m 42 #[.val (.ref so), .val (.int (Int32.ofNat jj))] [(.long (own_L ((own_F A.toInt B.toInt e N) - (own_F A.toInt B.toInt e (N - jj)))))])
  have N102 := Fr.app N0 Nc
  have S102 := Sc
  refine Rch.retJ X102 hx hlk Bd.returns (hb hby dsm_42) (by decide) (by decide) ?_
  unfold Qrmsm
  exact ⟨rfl, N102, S102⟩
theorem own_pn8 : plainFor (⟨"com/example/binflow/binflow/solve/SubsetSums", "following", "(II)J"⟩ : MethodName) = true := by first | exact plainFor_of_name (by first | (simp [plainName, overriddenIn]; done) | decide +kernel) | decide +kernel
theorem own_pd4 : parseMethodDescriptor "(II)J" = some ⟨[.int, .int], some .long⟩ := by decide +kernel
theorem dfo_0 : decode prog_23_method_11_code 0 = .ok (.aload_n 0, 1) := by decide +kernel
theorem dfo_1 : decode prog_23_method_11_code 1 = .ok (.iload_n 1, 1) := by decide +kernel
theorem dfo_2 : decode prog_23_method_11_code 2 = .ok (.iload_n 2, 1) := by decide +kernel
theorem dfo_3 : decode prog_23_method_11_code 3 = .ok (.iadd, 1) := by decide +kernel
theorem dfo_4 : decode prog_23_method_11_code 4 = .ok (.invokevirtual 90, 3) := by decide +kernel
theorem dfo_7 : decode prog_23_method_11_code 7 = .ok (.aload_n 0, 1) := by decide +kernel
theorem dfo_8 : decode prog_23_method_11_code 8 = .ok (.iload_n 1, 1) := by decide +kernel
theorem dfo_9 : decode prog_23_method_11_code 9 = .ok (.invokevirtual 90, 3) := by decide +kernel
theorem dfo_12 : decode prog_23_method_11_code 12 = .ok (.lsub, 1) := by decide +kernel
theorem dfo_13 : decode prog_23_method_11_code 13 = .ok (.lreturn, 1) := by decide +kernel
theorem own_ef13 (m : MethodId) (x0 : Addr) (x1 : Int32) (x2 : Int32) : entryFrame m #[(.ref x0), (.int x1), (.int x2)] 3 = mkF m 0 #[.val (.ref x0), .val (.int x1), .val (.int x2)] [] := by first | (simp [entryFrame, mkF, argsToLocals, Value.category, maxLocals]; done) | rfl
def Qrmfo (Z : State) (so : Addr) (A B : Int32) (e N : Nat) (rc : Int32) (ga : Int64) (cc jj : Nat) (h0 : Heap) (n0 : Nat) : Option Value → Heap → List Loc → Prop := fun v h L => v = some (.long (own_L ((own_F A.toInt B.toInt e (N - cc)) - (own_F A.toInt B.toInt e (N - (cc + jj)))))) ∧ Fr n0 L ∧ own_Sg Z h n0 so A B e N rc (-1 : Int32) ga
set_option maxRecDepth 65536 in
set_option maxHeartbeats 40000000 in
theorem rmfo (l : Launch) (Z : State) (a0 : Array Value) (hw : ∀ d ∈ tables_1, d.before a0 Z = true) (ws : List Jvm.Cond) (so : Addr) (A B : Int32) (e N : Nat) (rc : Int32) (ga : Int64) (cc jj : Nat) (h0 : Heap) (n0 : Nat) (Z0 : n0 ≤ h0.size) (S : own_Sg Z h0 n0 so A B e N rc (-1 : Int32) ga) (hj : cc + jj ≤ N) :
    MetFree l (⟨"com/example/binflow/binflow/solve/SubsetSums", "following", "(II)J"⟩ : MethodName) (head1 (Jvm.Cond.code (⟨"com/example/binflow/binflow/solve/SubsetSums", "following", "(II)J"⟩ : MethodName) prog_23_method_11_code 3 (some .long) :: ws) ({ frames := 4, cells := 0, slots := 0, locals := 58 } : Room)) (fun a U => a = #[(.ref so), (.int (Int32.ofNat cc)), (.int (Int32.ofNat jj))] ∧ Z.Warmed39 U.vm ∧ U.heap = h0) (fun _ _ _ _ _ => True) (fun _ U o U' => ∃ v L, o = .returned v ∧ (Qrmfo Z so A B e N rc ga cc jj h0 n0) v U'.heap L ∧ FrameEnd U o U' L ({ frames := 4, cells := 0, slots := 0, locals := 58 } : Room).cells ({ frames := 4, cells := 0, slots := 0, locals := 58 } : Room).slots) := by
  refine MetFree.of_bodySF own_pn8 hisR ?_
  intro p ev s m args below meth c s₁ Bd hml0 hP hK
  obtain ⟨rfl, hZ, hh⟩ := hP
  have hx := Bd.exec
  have hby := Bd.bytes
  have hlk := Bd.notSynchronized
  have hml : c.maxLocals = 3 := hml0
  have hown : s.vm.findClass "com/example/binflow/binflow/solve/SubsetSums" = some m.cls := findClass_of_methodNamed Bd.named
  have hnm := (name_of_methodNamed Bd.named Bd.method).1
  have X0 : Stand p l ev ({ frames := 4, cells := 0, slots := 0, locals := 58 } : Room) s m #[(.ref so), (.int (Int32.ofNat cc)), (.int (Int32.ofNat jj))] below meth c s₁ [] 0 0 := Stand.of_body Bd
  have e0 : s₁.heap = h0 := by rw [← hh, Bd.state]; rfl
  have N0 := Fr.nil n0
  refine Rch.entry (G := (EndQ (Qrmfo Z so A B e N rc ga cc jj h0 n0) s ({ frames := 4, cells := 0, slots := 0, locals := 58 } : Room).cells ({ frames := 4, cells := 0, slots := 0, locals := 58 } : Room).slots)) (own_ef13 m so (Int32.ofNat cc) (Int32.ofNat jj)) ?_
  show Rch p ev below _ s₁ (mkF m 0 #[.val (.ref so), .val (.int (Int32.ofNat cc)), .val (.int (Int32.ofNat jj))] [])
  obtain ⟨hA, hB, he1, heN, hN8⟩ := own_Sg_st S
  refine Rch.go (fun _ q => XS.aloadN X0.here hx rfl (hb hby dfo_0) rfl rfl q) ?_
  show Rch p ev below _ s₁ (mkF m 1 #[.val (.ref so), .val (.int (Int32.ofNat cc)), .val (.int (Int32.ofNat jj))] [(.ref so)])
  refine Rch.go (fun _ q => XS.iloadN X0.here hx rfl (hb hby dfo_1) rfl  q) ?_
  show Rch p ev below _ s₁ (mkF m 2 #[.val (.ref so), .val (.int (Int32.ofNat cc)), .val (.int (Int32.ofNat jj))] [(.int (Int32.ofNat cc)), (.ref so)])
  refine Rch.go (fun _ q => XS.iloadN X0.here hx rfl (hb hby dfo_2) rfl  q) ?_
  show Rch p ev below _ s₁ (mkF m 3 #[.val (.ref so), .val (.int (Int32.ofNat cc)), .val (.int (Int32.ofNat jj))] [(.int (Int32.ofNat jj)), (.int (Int32.ofNat cc)), (.ref so)])
  refine Rch.go (fun _ q => XS.iadd X0.here hx rfl (hb hby dfo_3) rfl q) ?_
  show Rch p ev below _ s₁ (mkF m 4 #[.val (.ref so), .val (.int (Int32.ofNat cc)), .val (.int (Int32.ofNat jj))] [(.int ((Int32.ofNat cc) + (Int32.ofNat jj))), (.ref so)])
  rw [show (Int32.ofNat cc + Int32.ofNat jj) = (Int32.ofNat (cc + jj)) from (own_add_N (by omega))]
  show Rch p ev below _ s₁ (mkF m 4 #[.val (.ref so), .val (.int (Int32.ofNat cc)), .val (.int (Int32.ofNat jj))] [(.int (Int32.ofNat (cc + jj))), (.ref so)])
  obtain ⟨cq101, q101, q101'⟩ := Exa.cell (own_Sg_exa S)
  obtain ⟨_, _, ⟨T101, L101, k101, n101⟩, -, X101, ⟨Lc101, hQ101, l101, y101, z101⟩, st101⟩ := X0.privateBack hx (y := (⟨"com/example/binflow/binflow/solve/SubsetSums", "smallest", "(I)J"⟩ : MethodName)) hown (mvT hZ (hw _ (List.mem_of_getElem? (i := 107) rfl))) (mvT hZ (hw _ (List.mem_of_getElem? (i := 108) rfl))) (mvT hZ (own_sel (by decide) (hw _ (List.mem_of_getElem? (i := 8) rfl)) (hw _ (List.mem_of_getElem? (i := 109) rfl)) (hw _ (List.mem_of_getElem? (i := 108) rfl)))) (Cond.privateMethod_at (mvP hZ (hw _ (List.mem_of_getElem? (i := 109) rfl)) (args := #[]))) (mvT hZ (hw _ (List.mem_of_getElem? (i := 110) rfl))) (by decide) (backOf (W := 0) (rmsm l Z a0 hw [] so A B e N rc ga (cc + jj) h0 n0 (own_Sg_le S) S hj) hZ (hw _ (List.mem_of_getElem? (i := 110) rfl)) (hw _ (List.mem_of_getElem? (i := 9) rfl)) (by decide) (by decide)) (g := (mkF m 4 #[.val (.ref so), .val (.int (Int32.ofNat cc)), .val (.int (Int32.ofNat jj))] [(.int (Int32.ofNat (cc + jj))), (.ref so)])) rfl (by rw [hml]; rfl) (Steps.refl _) (a := so) (by rw [e0]; exact q101) q101' (argsL := [(.int (Int32.ofNat (cc + jj)))]) (rest := []) (lenOf own_pd3 rfl) rfl (by show 2 * 0 + _ ≤ _; exact Nat.le_of_eq rfl) (hb hby dfo_4) (fun _ _ => ⟨rfl, e0, (by decide : 0 + 0 ≤ _), (by decide : 0 + 0 ≤ _)⟩)
  dsimp only [Pt.U, Pt.locs, Pt.cells, Pt.slots] at X101 l101 y101 z101 st101 hQ101
  subst l101 y101 z101
  obtain ⟨rfl, Nc, Sc⟩ := hQ101
  refine Rch.jump st101 ?_
  show Rch p ev below _ T101 (mkF m 7 #[.val (.ref so), .val (.int (Int32.ofNat cc)), .val (.int (Int32.ofNat jj))] [(.long (own_L ((own_F A.toInt B.toInt e N) - (own_F A.toInt B.toInt e (N - (cc + jj))))))])
  have N101 := Fr.app N0 Nc
  have S101 := Sc
  refine Rch.go (fun _ q => XS.aloadN X101.here hx rfl (hb hby dfo_7) rfl rfl q) ?_
  show Rch p ev below _ T101 (mkF m 8 #[.val (.ref so), .val (.int (Int32.ofNat cc)), .val (.int (Int32.ofNat jj))] [(.ref so), (.long (own_L ((own_F A.toInt B.toInt e N) - (own_F A.toInt B.toInt e (N - (cc + jj))))))])
  refine Rch.go (fun _ q => XS.iloadN X101.here hx rfl (hb hby dfo_8) rfl  q) ?_
  show Rch p ev below _ T101 (mkF m 9 #[.val (.ref so), .val (.int (Int32.ofNat cc)), .val (.int (Int32.ofNat jj))] [(.int (Int32.ofNat cc)), (.ref so), (.long (own_L ((own_F A.toInt B.toInt e N) - (own_F A.toInt B.toInt e (N - (cc + jj))))))])
  obtain ⟨cq102, q102, q102'⟩ := Exa.cell (own_Sg_exa S101)
  obtain ⟨_, _, ⟨T102, L102, k102, n102⟩, -, X102, ⟨Lc102, hQ102, l102, y102, z102⟩, st102⟩ := X101.privateBack hx (y := (⟨"com/example/binflow/binflow/solve/SubsetSums", "smallest", "(I)J"⟩ : MethodName)) hown (mvT hZ (hw _ (List.mem_of_getElem? (i := 107) rfl))) (mvT hZ (hw _ (List.mem_of_getElem? (i := 108) rfl))) (mvT hZ (own_sel (by decide) (hw _ (List.mem_of_getElem? (i := 8) rfl)) (hw _ (List.mem_of_getElem? (i := 109) rfl)) (hw _ (List.mem_of_getElem? (i := 108) rfl)))) (Cond.privateMethod_at (mvP hZ (hw _ (List.mem_of_getElem? (i := 109) rfl)) (args := #[]))) (mvT hZ (hw _ (List.mem_of_getElem? (i := 110) rfl))) (by decide) (backOf (W := 2) (rmsm l Z a0 hw [] so A B e N rc ga cc T101.heap n0 (own_Sg_le S101) S101 (by omega)) hZ (hw _ (List.mem_of_getElem? (i := 110) rfl)) (hw _ (List.mem_of_getElem? (i := 9) rfl)) (by decide) (by decide)) (g := (mkF m 9 #[.val (.ref so), .val (.int (Int32.ofNat cc)), .val (.int (Int32.ofNat jj))] [(.int (Int32.ofNat cc)), (.ref so), (.long (own_L ((own_F A.toInt B.toInt e N) - (own_F A.toInt B.toInt e (N - (cc + jj))))))])) rfl (by rw [hml]; rfl) (Steps.refl _) (a := so) q102 q102' (argsL := [(.int (Int32.ofNat cc))]) (rest := [(.long (own_L ((own_F A.toInt B.toInt e N) - (own_F A.toInt B.toInt e (N - (cc + jj))))))]) (lenOf own_pd3 rfl) rfl (by show 2 * 0 + _ ≤ _; exact Nat.le_of_eq rfl) (hb hby dfo_9) (fun _ _ => ⟨rfl, rfl, (by decide : 0 + 0 ≤ _), (by decide : 0 + 0 ≤ _)⟩)
  dsimp only [Pt.U, Pt.locs, Pt.cells, Pt.slots] at X102 l102 y102 z102 st102 hQ102
  subst l102 y102 z102
  obtain ⟨rfl, Nc, Sc⟩ := hQ102
  refine Rch.jump st102 ?_
  show Rch p ev below _ T102 (mkF m 12 #[.val (.ref so), .val (.int (Int32.ofNat cc)), .val (.int (Int32.ofNat jj))] [(.long (own_L ((own_F A.toInt B.toInt e N) - (own_F A.toInt B.toInt e (N - cc))))), (.long (own_L ((own_F A.toInt B.toInt e N) - (own_F A.toInt B.toInt e (N - (cc + jj))))))])
  have N102 := Fr.app N101 Nc
  have S102 := Sc
  refine Rch.go (fun _ q => XS.lsub X102.here hx rfl (hb hby dfo_12) rfl q) ?_
  show Rch p ev below _ T102 (mkF m 13 #[.val (.ref so), .val (.int (Int32.ofNat cc)), .val (.int (Int32.ofNat jj))] [(.long ((own_L ((own_F A.toInt B.toInt e N) - (own_F A.toInt B.toInt e (N - (cc + jj))))) - (own_L ((own_F A.toInt B.toInt e N) - (own_F A.toInt B.toInt e (N - cc))))))])
  refine Rch.retJ X102 hx hlk Bd.returns (hb hby dfo_13) (by decide) (by decide) ?_
  unfold Qrmfo
  refine ⟨?_, N102, S102⟩
  rw [own_L_sub]; congr 3; omega
def own_CG (A B : Int32) (e N : Nat) (lw : Int64) (r : Int32) (gaN : Int64) : Prop := ((r = 1 ∧ ∃ k c : Nat, k + c + 1 ≤ N ∧ (own_F A.toInt B.toInt e k) < lw.toInt ∧ lw.toInt < gaN.toInt ∧ gaN.toInt = ((own_F A.toInt B.toInt e (N - c)) - (own_F A.toInt B.toInt e (N - (c + (k + 1)))))) ∨ (r = 0 ∧ ∃ k c : Nat, k + c + 1 ≤ N ∧ (own_F A.toInt B.toInt e k) < lw.toInt ∧ lw.toInt ≤ (own_F A.toInt B.toInt e (k + 1)) ∧ ((own_F A.toInt B.toInt e (N - c)) - (own_F A.toInt B.toInt e (N - (c + (k + 1))))) ≤ lw.toInt))
theorem own_pn9 : plainFor (⟨"com/example/binflow/binflow/solve/SubsetSums", "countedGap", "(JJ)Z"⟩ : MethodName) = true := by first | exact plainFor_of_name (by first | (simp [plainName, overriddenIn]; done) | decide +kernel) | decide +kernel
theorem own_pd5 : parseMethodDescriptor "(JJ)Z" = some ⟨[.long, .long], some .boolean⟩ := by decide +kernel
theorem dcg_0 : decode prog_23_method_10_code 0 = .ok (.iconst 0, 1) := by decide +kernel
theorem dcg_1 : decode prog_23_method_10_code 1 = .ok (.istore 5, 2) := by decide +kernel
theorem dcg_3 : decode prog_23_method_10_code 3 = .ok (.aload_n 0, 1) := by decide +kernel
theorem dcg_4 : decode prog_23_method_10_code 4 = .ok (.iload 5, 2) := by decide +kernel
theorem dcg_6 : decode prog_23_method_10_code 6 = .ok (.iconst 1, 1) := by decide +kernel
theorem dcg_7 : decode prog_23_method_10_code 7 = .ok (.iadd, 1) := by decide +kernel
theorem dcg_8 : decode prog_23_method_10_code 8 = .ok (.invokevirtual 90, 3) := by decide +kernel
theorem dcg_11 : decode prog_23_method_10_code 11 = .ok (.lload_n 1, 1) := by decide +kernel
theorem dcg_12 : decode prog_23_method_10_code 12 = .ok (.lcmp, 1) := by decide +kernel
theorem dcg_13 : decode prog_23_method_10_code 13 = .ok (.ifCond .ge 9, 3) := by decide +kernel
theorem dcg_16 : decode prog_23_method_10_code 16 = .ok (.iinc 5 1, 3) := by decide +kernel
theorem dcg_19 : decode prog_23_method_10_code 19 = .ok (.goto (-16), 3) := by decide +kernel
theorem dcg_22 : decode prog_23_method_10_code 22 = .ok (.iconst 0, 1) := by decide +kernel
theorem dcg_23 : decode prog_23_method_10_code 23 = .ok (.istore 6, 2) := by decide +kernel
theorem dcg_25 : decode prog_23_method_10_code 25 = .ok (.lconst 0, 1) := by decide +kernel
theorem dcg_26 : decode prog_23_method_10_code 26 = .ok (.lstore 7, 2) := by decide +kernel
theorem dcg_28 : decode prog_23_method_10_code 28 = .ok (.iconst 0, 1) := by decide +kernel
theorem dcg_29 : decode prog_23_method_10_code 29 = .ok (.istore 9, 2) := by decide +kernel
theorem dcg_31 : decode prog_23_method_10_code 31 = .ok (.lload 7, 2) := by decide +kernel
theorem dcg_33 : decode prog_23_method_10_code 33 = .ok (.lload_n 1, 1) := by decide +kernel
theorem dcg_34 : decode prog_23_method_10_code 34 = .ok (.lcmp, 1) := by decide +kernel
theorem dcg_35 : decode prog_23_method_10_code 35 = .ok (.ifCond .ge 85, 3) := by decide +kernel
theorem dcg_38 : decode prog_23_method_10_code 38 = .ok (.iload 6, 2) := by decide +kernel
theorem dcg_40 : decode prog_23_method_10_code 40 = .ok (.ifCond .ne 80, 3) := by decide +kernel
theorem dcg_43 : decode prog_23_method_10_code 43 = .ok (.lload 7, 2) := by decide +kernel
theorem dcg_45 : decode prog_23_method_10_code 45 = .ok (.aload_n 0, 1) := by decide +kernel
theorem dcg_46 : decode prog_23_method_10_code 46 = .ok (.iload 5, 2) := by decide +kernel
theorem dcg_48 : decode prog_23_method_10_code 48 = .ok (.invokevirtual 90, 3) := by decide +kernel
theorem dcg_51 : decode prog_23_method_10_code 51 = .ok (.ladd, 1) := by decide +kernel
theorem dcg_52 : decode prog_23_method_10_code 52 = .ok (.lload_n 1, 1) := by decide +kernel
theorem dcg_53 : decode prog_23_method_10_code 53 = .ok (.lcmp, 1) := by decide +kernel
theorem dcg_54 : decode prog_23_method_10_code 54 = .ok (.ifCond .lt 9, 3) := by decide +kernel
theorem dcg_57 : decode prog_23_method_10_code 57 = .ok (.iinc 5 (-1), 3) := by decide +kernel
theorem dcg_60 : decode prog_23_method_10_code 60 = .ok (.goto (-17), 3) := by decide +kernel
theorem dcg_63 : decode prog_23_method_10_code 63 = .ok (.aload_n 0, 1) := by decide +kernel
theorem dcg_64 : decode prog_23_method_10_code 64 = .ok (.iload 5, 2) := by decide +kernel
theorem dcg_66 : decode prog_23_method_10_code 66 = .ok (.iload 9, 2) := by decide +kernel
theorem dcg_68 : decode prog_23_method_10_code 68 = .ok (.iconst 1, 1) := by decide +kernel
theorem dcg_69 : decode prog_23_method_10_code 69 = .ok (.iadd, 1) := by decide +kernel
theorem dcg_70 : decode prog_23_method_10_code 70 = .ok (.invokevirtual 93, 3) := by decide +kernel
theorem dcg_73 : decode prog_23_method_10_code 73 = .ok (.lstore 10, 2) := by decide +kernel
theorem dcg_75 : decode prog_23_method_10_code 75 = .ok (.lload 10, 2) := by decide +kernel
theorem dcg_77 : decode prog_23_method_10_code 77 = .ok (.lload_n 3, 1) := by decide +kernel
theorem dcg_78 : decode prog_23_method_10_code 78 = .ok (.lcmp, 1) := by decide +kernel
theorem dcg_79 : decode prog_23_method_10_code 79 = .ok (.ifCond .le 25, 3) := by decide +kernel
theorem dcg_82 : decode prog_23_method_10_code 82 = .ok (.aload_n 0, 1) := by decide +kernel
theorem dcg_83 : decode prog_23_method_10_code 83 = .ok (.lload 7, 2) := by decide +kernel
theorem dcg_85 : decode prog_23_method_10_code 85 = .ok (.aload_n 0, 1) := by decide +kernel
theorem dcg_86 : decode prog_23_method_10_code 86 = .ok (.iload 5, 2) := by decide +kernel
theorem dcg_88 : decode prog_23_method_10_code 88 = .ok (.invokevirtual 90, 3) := by decide +kernel
theorem dcg_91 : decode prog_23_method_10_code 91 = .ok (.ladd, 1) := by decide +kernel
theorem dcg_92 : decode prog_23_method_10_code 92 = .ok (.putfield 65, 3) := by decide +kernel
theorem dcg_95 : decode prog_23_method_10_code 95 = .ok (.aload_n 0, 1) := by decide +kernel
theorem dcg_96 : decode prog_23_method_10_code 96 = .ok (.lload 10, 2) := by decide +kernel
theorem dcg_98 : decode prog_23_method_10_code 98 = .ok (.putfield 62, 3) := by decide +kernel
theorem dcg_101 : decode prog_23_method_10_code 101 = .ok (.iconst 1, 1) := by decide +kernel
theorem dcg_102 : decode prog_23_method_10_code 102 = .ok (.istore 6, 2) := by decide +kernel
theorem dcg_104 : decode prog_23_method_10_code 104 = .ok (.aload_n 0, 1) := by decide +kernel
theorem dcg_105 : decode prog_23_method_10_code 105 = .ok (.iload 9, 2) := by decide +kernel
theorem dcg_107 : decode prog_23_method_10_code 107 = .ok (.iconst 1, 1) := by decide +kernel
theorem dcg_108 : decode prog_23_method_10_code 108 = .ok (.iadd, 1) := by decide +kernel
theorem dcg_109 : decode prog_23_method_10_code 109 = .ok (.invokevirtual 74, 3) := by decide +kernel
theorem dcg_112 : decode prog_23_method_10_code 112 = .ok (.lstore 7, 2) := by decide +kernel
theorem dcg_114 : decode prog_23_method_10_code 114 = .ok (.iinc 9 1, 3) := by decide +kernel
theorem dcg_117 : decode prog_23_method_10_code 117 = .ok (.goto (-86), 3) := by decide +kernel
theorem dcg_120 : decode prog_23_method_10_code 120 = .ok (.iload 6, 2) := by decide +kernel
theorem dcg_122 : decode prog_23_method_10_code 122 = .ok (.ireturn, 1) := by decide +kernel
theorem own_ef14 (m : MethodId) (x0 : Addr) (x1 : Int64) (x2 : Int64) : entryFrame m #[(.ref x0), (.long x1), (.long x2)] 12 = mkF m 0 #[.val (.ref x0), .val (.long x1), .second, .val (.long x2), .second, .unset, .unset, .unset, .unset, .unset, .unset, .unset] [] := by first | (simp [entryFrame, mkF, argsToLocals, Value.category, maxLocals]; done) | rfl
def Qrmcg (Z : State) (so : Addr) (lw : Int64) (A B : Int32) (e N : Nat) (rc : Int32) (ga : Int64) (h0 : Heap) (n0 : Nat) : Option Value → Heap → List Loc → Prop := fun v h L => ∃ (r : Int32) (gaN : Int64), v = some (.int r) ∧ Fr n0 L ∧ own_Sg Z h n0 so A B e N rc (-1 : Int32) gaN ∧ own_CG A B e N lw r gaN
theorem own_st10 {so : Addr} {lw x ls : Int64} {cc ff kk : Int32} {s10 s11 : Slot} (hs : (s10 = .unset ∧ s11 = .unset) ∨ ∃ y : Int64, s10 = .val (.long y) ∧ s11 = .second) :
    storeLocals #[.val (.ref so), .val (.long lw), .second, .val (.long lw), .second, .val (.int cc), .val (.int ff), .val (.long ls), .second, .val (.int kk), s10, s11] 10 (.long x) = some #[.val (.ref so), .val (.long lw), .second, .val (.long lw), .second, .val (.int cc), .val (.int ff), .val (.long ls), .second, .val (.int kk), .val (.long x), .second] := by
  rcases hs with ⟨rfl, rfl⟩ | ⟨y, rfl, rfl⟩ <;> rfl
set_option maxRecDepth 65536 in
set_option maxHeartbeats 40000000 in
theorem rmcg (l : Launch) (Z : State) (a0 : Array Value) (hw : ∀ d ∈ tables_1, d.before a0 Z = true) (ws : List Jvm.Cond) (so : Addr) (lw : Int64) (A B : Int32) (e N : Nat) (rc : Int32) (ga : Int64) (h0 : Heap) (n0 : Nat) (Z0 : n0 ≤ h0.size) (S : own_Sg Z h0 n0 so A B e N rc (-1 : Int32) ga) (hlw : 0 < lw.toInt) (hlt : lw.toInt < (own_F A.toInt B.toInt e N)) :
    MetFree l (⟨"com/example/binflow/binflow/solve/SubsetSums", "countedGap", "(JJ)Z"⟩ : MethodName) (head1 (Jvm.Cond.code (⟨"com/example/binflow/binflow/solve/SubsetSums", "countedGap", "(JJ)Z"⟩ : MethodName) prog_23_method_10_code 12 (some .boolean) :: ws) ({ frames := 5, cells := 0, slots := 0, locals := 72 } : Room)) (fun a U => a = #[(.ref so), (.long lw), (.long lw)] ∧ Z.Warmed39 U.vm ∧ U.heap = h0) (fun _ _ _ _ _ => True) (fun _ U o U' => ∃ v L, o = .returned v ∧ (Qrmcg Z so lw A B e N rc ga h0 n0) v U'.heap L ∧ FrameEnd U o U' L ({ frames := 5, cells := 0, slots := 0, locals := 72 } : Room).cells ({ frames := 5, cells := 0, slots := 0, locals := 72 } : Room).slots) := by
  refine MetFree.of_bodySF own_pn9 hisR ?_
  intro p ev s m args below meth c s₁ Bd hml0 hP hK
  obtain ⟨rfl, hZ, hh⟩ := hP
  have hx := Bd.exec
  have hby := Bd.bytes
  have hlk := Bd.notSynchronized
  have hml : c.maxLocals = 12 := hml0
  have hown : s.vm.findClass "com/example/binflow/binflow/solve/SubsetSums" = some m.cls := findClass_of_methodNamed Bd.named
  have hnm := (name_of_methodNamed Bd.named Bd.method).1
  have X0 : Stand p l ev ({ frames := 5, cells := 0, slots := 0, locals := 72 } : Room) s m #[(.ref so), (.long lw), (.long lw)] below meth c s₁ [] 0 0 := Stand.of_body Bd
  have e0 : s₁.heap = h0 := by rw [← hh, Bd.state]; rfl
  have N0 := Fr.nil n0
  refine Rch.entry (G := (EndQ (Qrmcg Z so lw A B e N rc ga h0 n0) s ({ frames := 5, cells := 0, slots := 0, locals := 72 } : Room).cells ({ frames := 5, cells := 0, slots := 0, locals := 72 } : Room).slots)) (own_ef14 m so lw lw) ?_
  have hbool : ∀ x : Int32, nar .boolean x = x &&& 1 := fun _ => rfl
  show Rch p ev below _ s₁ (mkF m 0 #[.val (.ref so), .val (.long lw), .second, .val (.long lw), .second, .unset, .unset, .unset, .unset, .unset, .unset, .unset] [])
  obtain ⟨hA, hB, he1, heN, hN8⟩ := own_Sg_st S
  have hF := own_Fb A B e hA hB
  have F0 : (own_F A.toInt B.toInt e 0) = 0 := rfl
  have fN := hF N hN8
  have loop2 : ∀ (f : Nat) (Tl : State) (hl : Heap) (Ll : List Loc) (gl : Int64) (cc kk : Nat) (s10 s11 : Slot), Stand p l ev ({ frames := 5, cells := 0, slots := 0, locals := 72 } : Room) s m #[(.ref so), (.long lw), (.long lw)] below meth c Tl Ll 0 0 → Tl.heap = hl → Fr n0 Ll → own_Sg Z hl n0 so A B e N rc (-1 : Int32) gl → cc + 1 ≤ N → kk ≤ N → N ≤ kk + f → ((s10 = .unset ∧ s11 = .unset) ∨ ∃ y : Int64, s10 = .val (.long y) ∧ s11 = .second) → (kk = 0 ∨ ∃ c, (kk - 1) + c + 1 ≤ N ∧ (own_F A.toInt B.toInt e (kk - 1)) < lw.toInt ∧ ((own_F A.toInt B.toInt e (N - c)) - (own_F A.toInt B.toInt e (N - (c + ((kk - 1) + 1))))) ≤ lw.toInt) → Rch p ev below (EndQ (Qrmcg Z so lw A B e N rc ga h0 n0) s ({ frames := 5, cells := 0, slots := 0, locals := 72 } : Room).cells ({ frames := 5, cells := 0, slots := 0, locals := 72 } : Room).slots) Tl (mkF m 31 #[.val (.ref so), .val (.long lw), .second, .val (.long lw), .second, .val (.int (Int32.ofNat cc)), .val (.int (0 : Int32)), .val (.long (own_L (own_F A.toInt B.toInt e kk))), .second, .val (.int (Int32.ofNat kk)), s10, s11] []) := by
    intro f
    induction f with
    | zero =>
      intro Tl hl Ll gl cc kk s10 s11 Xl el Nl Sl hcc hkk hf hs hinv
      have hkN : kk = N := by omega
      have fk := hF kk (by omega)
      have hc35 : ¬ (own_F A.toInt B.toInt e kk) < lw.toInt := by rw [hkN]; omega
      show Rch p ev below _ Tl (mkF m 31 #[.val (.ref so), .val (.long lw), .second, .val (.long lw), .second, .val (.int (Int32.ofNat cc)), .val (.int (0 : Int32)), .val (.long (own_L (own_F A.toInt B.toInt e kk))), .second, .val (.int (Int32.ofNat kk)), s10, s11] [])
      refine Rch.go (fun _ q => XS.lload Xl.here hx rfl (hb hby dcg_31) rfl  q) ?_
      show Rch p ev below _ Tl (mkF m 33 #[.val (.ref so), .val (.long lw), .second, .val (.long lw), .second, .val (.int (Int32.ofNat cc)), .val (.int (0 : Int32)), .val (.long (own_L (own_F A.toInt B.toInt e kk))), .second, .val (.int (Int32.ofNat kk)), s10, s11] [(.long (own_L (own_F A.toInt B.toInt e kk)))])
      refine Rch.go (fun _ q => XS.lloadN Xl.here hx rfl (hb hby dcg_33) rfl  q) ?_
      show Rch p ev below _ Tl (mkF m 34 #[.val (.ref so), .val (.long lw), .second, .val (.long lw), .second, .val (.int (Int32.ofNat cc)), .val (.int (0 : Int32)), .val (.long (own_L (own_F A.toInt B.toInt e kk))), .second, .val (.int (Int32.ofNat kk)), s10, s11] [(.long lw), (.long (own_L (own_F A.toInt B.toInt e kk)))])
      refine Rch.go (fun _ q => XS.lcmp Xl.here hx rfl (hb hby dcg_34) rfl q) ?_
      show Rch p ev below _ Tl (mkF m 35 #[.val (.ref so), .val (.long lw), .second, .val (.long lw), .second, .val (.int (Int32.ofNat cc)), .val (.int (0 : Int32)), .val (.long (own_L (own_F A.toInt B.toInt e kk))), .second, .val (.int (Int32.ofNat kk)), s10, s11] [(.int (lcmpW (own_L (own_F A.toInt B.toInt e kk)) lw))])
      refine Rch.go (fun _ q => XS.ifYes Xl.here hx rfl (pc0 := 35) (pc' := 120) rfl (hb hby dcg_35) rfl ((if0 _ _).trans (flt (mt (own_lc_lt (v := (own_F A.toInt B.toInt e kk)) (w := lw) (by omega) (by omega)).mp hc35)).2.1) (by decide) (by decide) q) ?_
      show Rch p ev below _ Tl (mkF m 120 #[.val (.ref so), .val (.long lw), .second, .val (.long lw), .second, .val (.int (Int32.ofNat cc)), .val (.int (0 : Int32)), .val (.long (own_L (own_F A.toInt B.toInt e kk))), .second, .val (.int (Int32.ofNat kk)), s10, s11] [])
      refine Rch.go (fun _ q => XS.iload Xl.here hx rfl (hb hby dcg_120) rfl  q) ?_
      show Rch p ev below _ Tl (mkF m 122 #[.val (.ref so), .val (.long lw), .second, .val (.long lw), .second, .val (.int (Int32.ofNat cc)), .val (.int (0 : Int32)), .val (.long (own_L (own_F A.toInt B.toInt e kk))), .second, .val (.int (Int32.ofNat kk)), s10, s11] [(.int (0 : Int32))])
      have hend : ∃ k c : Nat, k + c + 1 ≤ N ∧ (own_F A.toInt B.toInt e k) < lw.toInt ∧ lw.toInt ≤ (own_F A.toInt B.toInt e (k + 1)) ∧ ((own_F A.toInt B.toInt e (N - c)) - (own_F A.toInt B.toInt e (N - (c + (k + 1))))) ≤ lw.toInt := by
        rcases hinv with q | ⟨c, q1, q2, q3⟩
        · rw [q, F0] at hc35; omega
        · have hk0 : kk ≠ 0 := fun z => by rw [z, F0] at hc35; omega
          have q : kk - 1 + 1 = kk := by omega
          exact ⟨kk - 1, c, q1, q2, by rw [q]; omega, q3⟩
      refine Rch.retZ Xl hx hlk Bd.returns (hb hby dcg_122) (by decide) (by decide) ?_
      unfold Qrmcg
      rw [el]
      exact ⟨0, _, rfl, Nl, Sl, Or.inr ⟨rfl, hend⟩⟩
    | succ f ih =>
      intro Tl hl Ll gl cc kk s10 s11 Xl el Nl Sl hcc hkk hf hs hinv
      have fk := hF kk (by omega)
      have rest : ∀ (Tl : State) (hl : Heap) (Ll : List Loc) (gl : Int64) (cc : Nat), Stand p l ev ({ frames := 5, cells := 0, slots := 0, locals := 72 } : Room) s m #[(.ref so), (.long lw), (.long lw)] below meth c Tl Ll 0 0 → Tl.heap = hl → Fr n0 Ll → own_Sg Z hl n0 so A B e N rc (-1 : Int32) gl → cc + 1 ≤ N → (own_F A.toInt B.toInt e kk) < lw.toInt → (own_F A.toInt B.toInt e kk) + ((own_F A.toInt B.toInt e N) - (own_F A.toInt B.toInt e (N - cc))) < lw.toInt → Rch p ev below (EndQ (Qrmcg Z so lw A B e N rc ga h0 n0) s ({ frames := 5, cells := 0, slots := 0, locals := 72 } : Room).cells ({ frames := 5, cells := 0, slots := 0, locals := 72 } : Room).slots) Tl (mkF m 63 #[.val (.ref so), .val (.long lw), .second, .val (.long lw), .second, .val (.int (Int32.ofNat cc)), .val (.int (0 : Int32)), .val (.long (own_L (own_F A.toInt B.toInt e kk))), .second, .val (.int (Int32.ofNat kk)), s10, s11] []) := by
        intro Tl hl Ll gl cc Xl el Nl Sl hcc hk1 hk2
        have hck : cc + kk < N := by
          refine Nat.lt_of_not_le fun q => ?_
          have := own_F_mono (e := e) hA hB (i := N - cc) (j := kk) (by omega)
          omega
        have d1 := hF (N - cc) (by omega)
        have d2 := hF (N - (cc + (kk + 1))) (by omega)
        have d3 := hF (kk + 1) (by omega)
        show Rch p ev below _ Tl (mkF m 63 #[.val (.ref so), .val (.long lw), .second, .val (.long lw), .second, .val (.int (Int32.ofNat cc)), .val (.int (0 : Int32)), .val (.long (own_L (own_F A.toInt B.toInt e kk))), .second, .val (.int (Int32.ofNat kk)), s10, s11] [])
        refine Rch.go (fun _ q => XS.aloadN Xl.here hx rfl (hb hby dcg_63) rfl rfl q) ?_
        show Rch p ev below _ Tl (mkF m 64 #[.val (.ref so), .val (.long lw), .second, .val (.long lw), .second, .val (.int (Int32.ofNat cc)), .val (.int (0 : Int32)), .val (.long (own_L (own_F A.toInt B.toInt e kk))), .second, .val (.int (Int32.ofNat kk)), s10, s11] [(.ref so)])
        refine Rch.go (fun _ q => XS.iload Xl.here hx rfl (hb hby dcg_64) rfl  q) ?_
        show Rch p ev below _ Tl (mkF m 66 #[.val (.ref so), .val (.long lw), .second, .val (.long lw), .second, .val (.int (Int32.ofNat cc)), .val (.int (0 : Int32)), .val (.long (own_L (own_F A.toInt B.toInt e kk))), .second, .val (.int (Int32.ofNat kk)), s10, s11] [(.int (Int32.ofNat cc)), (.ref so)])
        refine Rch.go (fun _ q => XS.iload Xl.here hx rfl (hb hby dcg_66) rfl  q) ?_
        show Rch p ev below _ Tl (mkF m 68 #[.val (.ref so), .val (.long lw), .second, .val (.long lw), .second, .val (.int (Int32.ofNat cc)), .val (.int (0 : Int32)), .val (.long (own_L (own_F A.toInt B.toInt e kk))), .second, .val (.int (Int32.ofNat kk)), s10, s11] [(.int (Int32.ofNat kk)), (.int (Int32.ofNat cc)), (.ref so)])
        refine Rch.go (fun _ q => XS.iconst Xl.here hx rfl (hb hby dcg_68) q) ?_
        show Rch p ev below _ Tl (mkF m 69 #[.val (.ref so), .val (.long lw), .second, .val (.long lw), .second, .val (.int (Int32.ofNat cc)), .val (.int (0 : Int32)), .val (.long (own_L (own_F A.toInt B.toInt e kk))), .second, .val (.int (Int32.ofNat kk)), s10, s11] [(.int (1 : Int32)), (.int (Int32.ofNat kk)), (.int (Int32.ofNat cc)), (.ref so)])
        refine Rch.go (fun _ q => XS.iadd Xl.here hx rfl (hb hby dcg_69) rfl q) ?_
        show Rch p ev below _ Tl (mkF m 70 #[.val (.ref so), .val (.long lw), .second, .val (.long lw), .second, .val (.int (Int32.ofNat cc)), .val (.int (0 : Int32)), .val (.long (own_L (own_F A.toInt B.toInt e kk))), .second, .val (.int (Int32.ofNat kk)), s10, s11] [(.int ((Int32.ofNat kk) + (1 : Int32))), (.int (Int32.ofNat cc)), (.ref so)])
        rw [show (Int32.ofNat kk + (1 : Int32)) = (Int32.ofNat (kk + 1)) from (own_add1_N (by omega))]
        show Rch p ev below _ Tl (mkF m 70 #[.val (.ref so), .val (.long lw), .second, .val (.long lw), .second, .val (.int (Int32.ofNat cc)), .val (.int (0 : Int32)), .val (.long (own_L (own_F A.toInt B.toInt e kk))), .second, .val (.int (Int32.ofNat kk)), s10, s11] [(.int (Int32.ofNat (kk + 1))), (.int (Int32.ofNat cc)), (.ref so)])
        obtain ⟨cq101, q101, q101'⟩ := Exa.cell (own_Sg_exa Sl)
        obtain ⟨_, _, ⟨T101, L101, k101, n101⟩, -, X101, ⟨Lc101, hQ101, l101, y101, z101⟩, st101⟩ := Xl.privateBack hx (y := (⟨"com/example/binflow/binflow/solve/SubsetSums", "following", "(II)J"⟩ : MethodName)) hown (mvT hZ (hw _ (List.mem_of_getElem? (i := 111) rfl))) (mvT hZ (hw _ (List.mem_of_getElem? (i := 112) rfl))) (mvT hZ (own_sel (by decide) (hw _ (List.mem_of_getElem? (i := 8) rfl)) (hw _ (List.mem_of_getElem? (i := 113) rfl)) (hw _ (List.mem_of_getElem? (i := 112) rfl)))) (Cond.privateMethod_at (mvP hZ (hw _ (List.mem_of_getElem? (i := 113) rfl)) (args := #[]))) (mvT hZ (hw _ (List.mem_of_getElem? (i := 114) rfl))) (by decide) (backOf (W := 0) (rmfo l Z a0 hw [] so A B e N rc gl cc (kk + 1) hl n0 (own_Sg_le Sl) Sl (by omega)) hZ (hw _ (List.mem_of_getElem? (i := 114) rfl)) (hw _ (List.mem_of_getElem? (i := 9) rfl)) (by decide) (by decide)) (g := (mkF m 70 #[.val (.ref so), .val (.long lw), .second, .val (.long lw), .second, .val (.int (Int32.ofNat cc)), .val (.int (0 : Int32)), .val (.long (own_L (own_F A.toInt B.toInt e kk))), .second, .val (.int (Int32.ofNat kk)), s10, s11] [(.int (Int32.ofNat (kk + 1))), (.int (Int32.ofNat cc)), (.ref so)])) rfl (by rw [hml]; rfl) (Steps.refl _) (a := so) (by rw [el]; exact q101) q101' (argsL := [(.int (Int32.ofNat cc)), (.int (Int32.ofNat (kk + 1)))]) (rest := []) (lenOf own_pd4 rfl) rfl (by show 2 * 0 + _ ≤ _; exact Nat.le_of_eq rfl) (hb hby dcg_70) (fun _ _ => ⟨rfl, el, (by decide : 0 + 0 ≤ _), (by decide : 0 + 0 ≤ _)⟩)
        dsimp only [Pt.U, Pt.locs, Pt.cells, Pt.slots] at X101 l101 y101 z101 st101 hQ101
        subst l101 y101 z101
        obtain ⟨rfl, Nc, Sc⟩ := hQ101
        refine Rch.jump st101 ?_
        show Rch p ev below _ T101 (mkF m 73 #[.val (.ref so), .val (.long lw), .second, .val (.long lw), .second, .val (.int (Int32.ofNat cc)), .val (.int (0 : Int32)), .val (.long (own_L (own_F A.toInt B.toInt e kk))), .second, .val (.int (Int32.ofNat kk)), s10, s11] [(.long (own_L ((own_F A.toInt B.toInt e (N - cc)) - (own_F A.toInt B.toInt e (N - (cc + (kk + 1)))))))])
        have N101 := Fr.app Nl Nc
        have S101 := Sc
        refine Rch.go (fun _ q => XS.lstore X101.here hx rfl (hb hby dcg_73) rfl (l' := #[.val (.ref so), .val (.long lw), .second, .val (.long lw), .second, .val (.int (Int32.ofNat cc)), .val (.int (0 : Int32)), .val (.long (own_L (own_F A.toInt B.toInt e kk))), .second, .val (.int (Int32.ofNat kk)), .val (.long (own_L ((own_F A.toInt B.toInt e (N - cc)) - (own_F A.toInt B.toInt e (N - (cc + (kk + 1))))))), .second]) (own_st10 hs) q) ?_
        show Rch p ev below _ T101 (mkF m 75 #[.val (.ref so), .val (.long lw), .second, .val (.long lw), .second, .val (.int (Int32.ofNat cc)), .val (.int (0 : Int32)), .val (.long (own_L (own_F A.toInt B.toInt e kk))), .second, .val (.int (Int32.ofNat kk)), .val (.long (own_L ((own_F A.toInt B.toInt e (N - cc)) - (own_F A.toInt B.toInt e (N - (cc + (kk + 1))))))), .second] [])
        refine Rch.go (fun _ q => XS.lload X101.here hx rfl (hb hby dcg_75) rfl  q) ?_
        show Rch p ev below _ T101 (mkF m 77 #[.val (.ref so), .val (.long lw), .second, .val (.long lw), .second, .val (.int (Int32.ofNat cc)), .val (.int (0 : Int32)), .val (.long (own_L (own_F A.toInt B.toInt e kk))), .second, .val (.int (Int32.ofNat kk)), .val (.long (own_L ((own_F A.toInt B.toInt e (N - cc)) - (own_F A.toInt B.toInt e (N - (cc + (kk + 1))))))), .second] [(.long (own_L ((own_F A.toInt B.toInt e (N - cc)) - (own_F A.toInt B.toInt e (N - (cc + (kk + 1)))))))])
        refine Rch.go (fun _ q => XS.lloadN X101.here hx rfl (hb hby dcg_77) rfl  q) ?_
        show Rch p ev below _ T101 (mkF m 78 #[.val (.ref so), .val (.long lw), .second, .val (.long lw), .second, .val (.int (Int32.ofNat cc)), .val (.int (0 : Int32)), .val (.long (own_L (own_F A.toInt B.toInt e kk))), .second, .val (.int (Int32.ofNat kk)), .val (.long (own_L ((own_F A.toInt B.toInt e (N - cc)) - (own_F A.toInt B.toInt e (N - (cc + (kk + 1))))))), .second] [(.long lw), (.long (own_L ((own_F A.toInt B.toInt e (N - cc)) - (own_F A.toInt B.toInt e (N - (cc + (kk + 1)))))))])
        refine Rch.go (fun _ q => XS.lcmp X101.here hx rfl (hb hby dcg_78) rfl q) ?_
        show Rch p ev below _ T101 (mkF m 79 #[.val (.ref so), .val (.long lw), .second, .val (.long lw), .second, .val (.int (Int32.ofNat cc)), .val (.int (0 : Int32)), .val (.long (own_L (own_F A.toInt B.toInt e kk))), .second, .val (.int (Int32.ofNat kk)), .val (.long (own_L ((own_F A.toInt B.toInt e (N - cc)) - (own_F A.toInt B.toInt e (N - (cc + (kk + 1))))))), .second] [(.int (lcmpW (own_L ((own_F A.toInt B.toInt e (N - cc)) - (own_F A.toInt B.toInt e (N - (cc + (kk + 1)))))) lw))])
        by_cases hc79 : lw.toInt < ((own_F A.toInt B.toInt e (N - cc)) - (own_F A.toInt B.toInt e (N - (cc + (kk + 1)))))
        · skip
          refine Rch.go (fun _ q => XS.ifNo X101.here hx rfl (hb hby dcg_79) rfl ((if0 _ _).trans (tlt ((own_lc_gt (v := ((own_F A.toInt B.toInt e (N - cc)) - (own_F A.toInt B.toInt e (N - (cc + (kk + 1)))))) (w := lw) (by omega) (by omega)).mpr hc79)).2.2.2) q) ?_
          show Rch p ev below _ T101 (mkF m 82 #[.val (.ref so), .val (.long lw), .second, .val (.long lw), .second, .val (.int (Int32.ofNat cc)), .val (.int (0 : Int32)), .val (.long (own_L (own_F A.toInt B.toInt e kk))), .second, .val (.int (Int32.ofNat kk)), .val (.long (own_L ((own_F A.toInt B.toInt e (N - cc)) - (own_F A.toInt B.toInt e (N - (cc + (kk + 1))))))), .second] [])
          refine Rch.go (fun _ q => XS.aloadN X101.here hx rfl (hb hby dcg_82) rfl rfl q) ?_
          show Rch p ev below _ T101 (mkF m 83 #[.val (.ref so), .val (.long lw), .second, .val (.long lw), .second, .val (.int (Int32.ofNat cc)), .val (.int (0 : Int32)), .val (.long (own_L (own_F A.toInt B.toInt e kk))), .second, .val (.int (Int32.ofNat kk)), .val (.long (own_L ((own_F A.toInt B.toInt e (N - cc)) - (own_F A.toInt B.toInt e (N - (cc + (kk + 1))))))), .second] [(.ref so)])
          refine Rch.go (fun _ q => XS.lload X101.here hx rfl (hb hby dcg_83) rfl  q) ?_
          show Rch p ev below _ T101 (mkF m 85 #[.val (.ref so), .val (.long lw), .second, .val (.long lw), .second, .val (.int (Int32.ofNat cc)), .val (.int (0 : Int32)), .val (.long (own_L (own_F A.toInt B.toInt e kk))), .second, .val (.int (Int32.ofNat kk)), .val (.long (own_L ((own_F A.toInt B.toInt e (N - cc)) - (own_F A.toInt B.toInt e (N - (cc + (kk + 1))))))), .second] [(.long (own_L (own_F A.toInt B.toInt e kk))), (.ref so)])
          refine Rch.go (fun _ q => XS.aloadN X101.here hx rfl (hb hby dcg_85) rfl rfl q) ?_
          show Rch p ev below _ T101 (mkF m 86 #[.val (.ref so), .val (.long lw), .second, .val (.long lw), .second, .val (.int (Int32.ofNat cc)), .val (.int (0 : Int32)), .val (.long (own_L (own_F A.toInt B.toInt e kk))), .second, .val (.int (Int32.ofNat kk)), .val (.long (own_L ((own_F A.toInt B.toInt e (N - cc)) - (own_F A.toInt B.toInt e (N - (cc + (kk + 1))))))), .second] [(.ref so), (.long (own_L (own_F A.toInt B.toInt e kk))), (.ref so)])
          refine Rch.go (fun _ q => XS.iload X101.here hx rfl (hb hby dcg_86) rfl  q) ?_
          show Rch p ev below _ T101 (mkF m 88 #[.val (.ref so), .val (.long lw), .second, .val (.long lw), .second, .val (.int (Int32.ofNat cc)), .val (.int (0 : Int32)), .val (.long (own_L (own_F A.toInt B.toInt e kk))), .second, .val (.int (Int32.ofNat kk)), .val (.long (own_L ((own_F A.toInt B.toInt e (N - cc)) - (own_F A.toInt B.toInt e (N - (cc + (kk + 1))))))), .second] [(.int (Int32.ofNat cc)), (.ref so), (.long (own_L (own_F A.toInt B.toInt e kk))), (.ref so)])
          obtain ⟨cq102, q102, q102'⟩ := Exa.cell (own_Sg_exa S101)
          obtain ⟨_, _, ⟨T102, L102, k102, n102⟩, -, X102, ⟨Lc102, hQ102, l102, y102, z102⟩, st102⟩ := X101.privateBack hx (y := (⟨"com/example/binflow/binflow/solve/SubsetSums", "smallest", "(I)J"⟩ : MethodName)) hown (mvT hZ (hw _ (List.mem_of_getElem? (i := 107) rfl))) (mvT hZ (hw _ (List.mem_of_getElem? (i := 108) rfl))) (mvT hZ (own_sel (by decide) (hw _ (List.mem_of_getElem? (i := 8) rfl)) (hw _ (List.mem_of_getElem? (i := 109) rfl)) (hw _ (List.mem_of_getElem? (i := 108) rfl)))) (Cond.privateMethod_at (mvP hZ (hw _ (List.mem_of_getElem? (i := 109) rfl)) (args := #[]))) (mvT hZ (hw _ (List.mem_of_getElem? (i := 110) rfl))) (by decide) (backOf (W := 3) (rmsm l Z a0 hw [] so A B e N rc gl cc T101.heap n0 (own_Sg_le S101) S101 (by omega)) hZ (hw _ (List.mem_of_getElem? (i := 110) rfl)) (hw _ (List.mem_of_getElem? (i := 9) rfl)) (by decide) (by decide)) (g := (mkF m 88 #[.val (.ref so), .val (.long lw), .second, .val (.long lw), .second, .val (.int (Int32.ofNat cc)), .val (.int (0 : Int32)), .val (.long (own_L (own_F A.toInt B.toInt e kk))), .second, .val (.int (Int32.ofNat kk)), .val (.long (own_L ((own_F A.toInt B.toInt e (N - cc)) - (own_F A.toInt B.toInt e (N - (cc + (kk + 1))))))), .second] [(.int (Int32.ofNat cc)), (.ref so), (.long (own_L (own_F A.toInt B.toInt e kk))), (.ref so)])) rfl (by rw [hml]; rfl) (Steps.refl _) (a := so) q102 q102' (argsL := [(.int (Int32.ofNat cc))]) (rest := [(.long (own_L (own_F A.toInt B.toInt e kk))), (.ref so)]) (lenOf own_pd3 rfl) rfl (by show 2 * 0 + _ ≤ _; exact Nat.le_of_eq rfl) (hb hby dcg_88) (fun _ _ => ⟨rfl, rfl, (by decide : 0 + 0 ≤ _), (by decide : 0 + 0 ≤ _)⟩)
          dsimp only [Pt.U, Pt.locs, Pt.cells, Pt.slots] at X102 l102 y102 z102 st102 hQ102
          subst l102 y102 z102
          obtain ⟨rfl, Nc, Sc⟩ := hQ102
          refine Rch.jump st102 ?_
          show Rch p ev below _ T102 (mkF m 91 #[.val (.ref so), .val (.long lw), .second, .val (.long lw), .second, .val (.int (Int32.ofNat cc)), .val (.int (0 : Int32)), .val (.long (own_L (own_F A.toInt B.toInt e kk))), .second, .val (.int (Int32.ofNat kk)), .val (.long (own_L ((own_F A.toInt B.toInt e (N - cc)) - (own_F A.toInt B.toInt e (N - (cc + (kk + 1))))))), .second] [(.long (own_L ((own_F A.toInt B.toInt e N) - (own_F A.toInt B.toInt e (N - cc))))), (.long (own_L (own_F A.toInt B.toInt e kk))), (.ref so)])
          have N102 := Fr.app N101 Nc
          have S102 := Sc
          refine Rch.go (fun _ q => XS.ladd X102.here hx rfl (hb hby dcg_91) rfl q) ?_
          show Rch p ev below _ T102 (mkF m 92 #[.val (.ref so), .val (.long lw), .second, .val (.long lw), .second, .val (.int (Int32.ofNat cc)), .val (.int (0 : Int32)), .val (.long (own_L (own_F A.toInt B.toInt e kk))), .second, .val (.int (Int32.ofNat kk)), .val (.long (own_L ((own_F A.toInt B.toInt e (N - cc)) - (own_F A.toInt B.toInt e (N - (cc + (kk + 1))))))), .second] [(.long ((own_L (own_F A.toInt B.toInt e kk)) + (own_L ((own_F A.toInt B.toInt e N) - (own_F A.toInt B.toInt e (N - cc)))))), (.ref so)])
          obtain ⟨fc, bc, S1⟩ := id S102
          obtain ⟨rs, rt, fs, bs, kr, kt, kf, kb, rl, tl, fl, bl, zl, fr, br, los, sm, gb, WW, Is, If, Ib⟩ := S1
          obtain ⟨hA, hB, he1, heN, hN8, hrc, r0, r1, t0, t1, zN, z16, hsm, hrl2, htl2⟩ := id Is
          have hfcN := If.1
          have hbcN := Ib.1
          obtain ⟨T103, h103, X103, e103, W103, st103⟩ := putF X102 hx hZ hown (host := "") (Or.inl (hw _ (List.mem_of_getElem? (i := 98) rfl))) Via.refl rfl (WW.2.1 13 _ _ _ rfl rfl) WW.1 (Or.inl (hw _ (List.mem_of_getElem? (i := 99) rfl))) (hw _ (List.mem_of_getElem? (i := 8) rfl)) (ty := .long) (by decide) rfl rfl (g := (mkF m 92 #[.val (.ref so), .val (.long lw), .second, .val (.long lw), .second, .val (.int (Int32.ofNat cc)), .val (.int (0 : Int32)), .val (.long (own_L (own_F A.toInt B.toInt e kk))), .second, .val (.int (Int32.ofNat kk)), .val (.long (own_L ((own_F A.toInt B.toInt e (N - cc)) - (own_F A.toInt B.toInt e (N - (cc + (kk + 1))))))), .second] [(.long ((own_L (own_F A.toInt B.toInt e kk)) + (own_L ((own_F A.toInt B.toInt e N) - (own_F A.toInt B.toInt e (N - cc)))))), (.ref so)])) rfl rfl (hb hby dcg_92)
          have N103 := Fr.snoc X103 N102 WW.2.2.2.2.2.2.1.1
          have Z103 : n0 ≤ h103.size := by rw [W103.size]; exact WW.2.2.2.2.2.2.1.2.2.2.2.2
          refine Rch.go st103 ?_
          show Rch p ev below _ T103 (mkF m 95 #[.val (.ref so), .val (.long lw), .second, .val (.long lw), .second, .val (.int (Int32.ofNat cc)), .val (.int (0 : Int32)), .val (.long (own_L (own_F A.toInt B.toInt e kk))), .second, .val (.int (Int32.ofNat kk)), .val (.long (own_L ((own_F A.toInt B.toInt e (N - cc)) - (own_F A.toInt B.toInt e (N - (cc + (kk + 1))))))), .second] [])
          have WW103 : own_W Z h103 n0 so rs rt fs bs kr kt kf kb rl tl fl bl zl [(.ref rs), (.ref rt), (.int rc), (.int (Int32.ofNat N)), (.long sm), (.ref fs), (.int (Int32.ofNat fc)), (.int fr), (.ref bs), (.int (Int32.ofNat bc)), (.int br), (.int los), (.int (-1 : Int32)), (.long ((own_L (own_F A.toInt B.toInt e kk)) + (own_L ((own_F A.toInt B.toInt e N) - (own_F A.toInt B.toInt e (N - cc)))))), (.long gl)] := own_W_put hw WW 13 rfl W103
          refine Rch.go (fun _ q => XS.aloadN X103.here hx rfl (hb hby dcg_95) rfl rfl q) ?_
          show Rch p ev below _ T103 (mkF m 96 #[.val (.ref so), .val (.long lw), .second, .val (.long lw), .second, .val (.int (Int32.ofNat cc)), .val (.int (0 : Int32)), .val (.long (own_L (own_F A.toInt B.toInt e kk))), .second, .val (.int (Int32.ofNat kk)), .val (.long (own_L ((own_F A.toInt B.toInt e (N - cc)) - (own_F A.toInt B.toInt e (N - (cc + (kk + 1))))))), .second] [(.ref so)])
          refine Rch.go (fun _ q => XS.lload X103.here hx rfl (hb hby dcg_96) rfl  q) ?_
          show Rch p ev below _ T103 (mkF m 98 #[.val (.ref so), .val (.long lw), .second, .val (.long lw), .second, .val (.int (Int32.ofNat cc)), .val (.int (0 : Int32)), .val (.long (own_L (own_F A.toInt B.toInt e kk))), .second, .val (.int (Int32.ofNat kk)), .val (.long (own_L ((own_F A.toInt B.toInt e (N - cc)) - (own_F A.toInt B.toInt e (N - (cc + (kk + 1))))))), .second] [(.long (own_L ((own_F A.toInt B.toInt e (N - cc)) - (own_F A.toInt B.toInt e (N - (cc + (kk + 1))))))), (.ref so)])
          obtain ⟨T104, h104, X104, e104, W104, st104⟩ := putF X103 hx hZ hown (host := "") (Or.inl (hw _ (List.mem_of_getElem? (i := 100) rfl))) Via.refl e103 (WW103.2.1 14 _ _ _ rfl rfl) WW103.1 (Or.inl (hw _ (List.mem_of_getElem? (i := 101) rfl))) (hw _ (List.mem_of_getElem? (i := 8) rfl)) (ty := .long) (by decide) rfl rfl (g := (mkF m 98 #[.val (.ref so), .val (.long lw), .second, .val (.long lw), .second, .val (.int (Int32.ofNat cc)), .val (.int (0 : Int32)), .val (.long (own_L (own_F A.toInt B.toInt e kk))), .second, .val (.int (Int32.ofNat kk)), .val (.long (own_L ((own_F A.toInt B.toInt e (N - cc)) - (own_F A.toInt B.toInt e (N - (cc + (kk + 1))))))), .second] [(.long (own_L ((own_F A.toInt B.toInt e (N - cc)) - (own_F A.toInt B.toInt e (N - (cc + (kk + 1))))))), (.ref so)])) rfl rfl (hb hby dcg_98)
          have N104 := Fr.snoc X104 N103 WW103.2.2.2.2.2.2.1.1
          have Z104 : n0 ≤ h104.size := by rw [W104.size]; exact WW103.2.2.2.2.2.2.1.2.2.2.2.2
          refine Rch.go st104 ?_
          show Rch p ev below _ T104 (mkF m 101 #[.val (.ref so), .val (.long lw), .second, .val (.long lw), .second, .val (.int (Int32.ofNat cc)), .val (.int (0 : Int32)), .val (.long (own_L (own_F A.toInt B.toInt e kk))), .second, .val (.int (Int32.ofNat kk)), .val (.long (own_L ((own_F A.toInt B.toInt e (N - cc)) - (own_F A.toInt B.toInt e (N - (cc + (kk + 1))))))), .second] [])
          have WW104 : own_W Z h104 n0 so rs rt fs bs kr kt kf kb rl tl fl bl zl [(.ref rs), (.ref rt), (.int rc), (.int (Int32.ofNat N)), (.long sm), (.ref fs), (.int (Int32.ofNat fc)), (.int fr), (.ref bs), (.int (Int32.ofNat bc)), (.int br), (.int los), (.int (-1 : Int32)), (.long ((own_L (own_F A.toInt B.toInt e kk)) + (own_L ((own_F A.toInt B.toInt e N) - (own_F A.toInt B.toInt e (N - cc)))))), (.long (own_L ((own_F A.toInt B.toInt e (N - cc)) - (own_F A.toInt B.toInt e (N - (cc + (kk + 1)))))))] := own_W_put hw WW103 14 rfl W104
          have S105 : own_Sg Z h104 n0 so A B e N rc (-1 : Int32) (own_L ((own_F A.toInt B.toInt e (N - cc)) - (own_F A.toInt B.toInt e (N - (cc + (kk + 1)))))) := ⟨fc, bc, rs, rt, fs, bs, kr, kt, kf, kb, rl, tl, fl, bl, zl, fr, br, _, sm, _, WW104, Is, If, Ib⟩
          refine Rch.go (fun _ q => XS.iconst X104.here hx rfl (hb hby dcg_101) q) ?_
          show Rch p ev below _ T104 (mkF m 102 #[.val (.ref so), .val (.long lw), .second, .val (.long lw), .second, .val (.int (Int32.ofNat cc)), .val (.int (0 : Int32)), .val (.long (own_L (own_F A.toInt B.toInt e kk))), .second, .val (.int (Int32.ofNat kk)), .val (.long (own_L ((own_F A.toInt B.toInt e (N - cc)) - (own_F A.toInt B.toInt e (N - (cc + (kk + 1))))))), .second] [(.int (1 : Int32))])
          refine Rch.go (fun _ q => XS.istore X104.here hx rfl (hb hby dcg_102) rfl (l' := #[.val (.ref so), .val (.long lw), .second, .val (.long lw), .second, .val (.int (Int32.ofNat cc)), .val (.int (1 : Int32)), .val (.long (own_L (own_F A.toInt B.toInt e kk))), .second, .val (.int (Int32.ofNat kk)), .val (.long (own_L ((own_F A.toInt B.toInt e (N - cc)) - (own_F A.toInt B.toInt e (N - (cc + (kk + 1))))))), .second]) rfl q) ?_
          show Rch p ev below _ T104 (mkF m 104 #[.val (.ref so), .val (.long lw), .second, .val (.long lw), .second, .val (.int (Int32.ofNat cc)), .val (.int (1 : Int32)), .val (.long (own_L (own_F A.toInt B.toInt e kk))), .second, .val (.int (Int32.ofNat kk)), .val (.long (own_L ((own_F A.toInt B.toInt e (N - cc)) - (own_F A.toInt B.toInt e (N - (cc + (kk + 1))))))), .second] [])
          refine Rch.go (fun _ q => XS.aloadN X104.here hx rfl (hb hby dcg_104) rfl rfl q) ?_
          show Rch p ev below _ T104 (mkF m 105 #[.val (.ref so), .val (.long lw), .second, .val (.long lw), .second, .val (.int (Int32.ofNat cc)), .val (.int (1 : Int32)), .val (.long (own_L (own_F A.toInt B.toInt e kk))), .second, .val (.int (Int32.ofNat kk)), .val (.long (own_L ((own_F A.toInt B.toInt e (N - cc)) - (own_F A.toInt B.toInt e (N - (cc + (kk + 1))))))), .second] [(.ref so)])
          refine Rch.go (fun _ q => XS.iload X104.here hx rfl (hb hby dcg_105) rfl  q) ?_
          show Rch p ev below _ T104 (mkF m 107 #[.val (.ref so), .val (.long lw), .second, .val (.long lw), .second, .val (.int (Int32.ofNat cc)), .val (.int (1 : Int32)), .val (.long (own_L (own_F A.toInt B.toInt e kk))), .second, .val (.int (Int32.ofNat kk)), .val (.long (own_L ((own_F A.toInt B.toInt e (N - cc)) - (own_F A.toInt B.toInt e (N - (cc + (kk + 1))))))), .second] [(.int (Int32.ofNat kk)), (.ref so)])
          refine Rch.go (fun _ q => XS.iconst X104.here hx rfl (hb hby dcg_107) q) ?_
          show Rch p ev below _ T104 (mkF m 108 #[.val (.ref so), .val (.long lw), .second, .val (.long lw), .second, .val (.int (Int32.ofNat cc)), .val (.int (1 : Int32)), .val (.long (own_L (own_F A.toInt B.toInt e kk))), .second, .val (.int (Int32.ofNat kk)), .val (.long (own_L ((own_F A.toInt B.toInt e (N - cc)) - (own_F A.toInt B.toInt e (N - (cc + (kk + 1))))))), .second] [(.int (1 : Int32)), (.int (Int32.ofNat kk)), (.ref so)])
          refine Rch.go (fun _ q => XS.iadd X104.here hx rfl (hb hby dcg_108) rfl q) ?_
          show Rch p ev below _ T104 (mkF m 109 #[.val (.ref so), .val (.long lw), .second, .val (.long lw), .second, .val (.int (Int32.ofNat cc)), .val (.int (1 : Int32)), .val (.long (own_L (own_F A.toInt B.toInt e kk))), .second, .val (.int (Int32.ofNat kk)), .val (.long (own_L ((own_F A.toInt B.toInt e (N - cc)) - (own_F A.toInt B.toInt e (N - (cc + (kk + 1))))))), .second] [(.int ((Int32.ofNat kk) + (1 : Int32))), (.ref so)])
          rw [show (Int32.ofNat kk + (1 : Int32)) = (Int32.ofNat (kk + 1)) from (own_add1_N (by omega))]
          show Rch p ev below _ T104 (mkF m 109 #[.val (.ref so), .val (.long lw), .second, .val (.long lw), .second, .val (.int (Int32.ofNat cc)), .val (.int (1 : Int32)), .val (.long (own_L (own_F A.toInt B.toInt e kk))), .second, .val (.int (Int32.ofNat kk)), .val (.long (own_L ((own_F A.toInt B.toInt e (N - cc)) - (own_F A.toInt B.toInt e (N - (cc + (kk + 1))))))), .second] [(.int (Int32.ofNat (kk + 1))), (.ref so)])
          obtain ⟨cq106, q106, q106'⟩ := Exa.cell (own_Sg_exa S105)
          obtain ⟨_, _, ⟨T106, L106, k106, n106⟩, -, X106, ⟨Lc106, hQ106, l106, y106, z106⟩, st106⟩ := X104.privateBack hx (y := (⟨"com/example/binflow/binflow/solve/SubsetSums", "largest", "(I)J"⟩ : MethodName)) hown (mvT hZ (hw _ (List.mem_of_getElem? (i := 66) rfl))) (mvT hZ (hw _ (List.mem_of_getElem? (i := 67) rfl))) (mvT hZ (own_sel (by decide) (hw _ (List.mem_of_getElem? (i := 8) rfl)) (hw _ (List.mem_of_getElem? (i := 68) rfl)) (hw _ (List.mem_of_getElem? (i := 67) rfl)))) (Cond.privateMethod_at (mvP hZ (hw _ (List.mem_of_getElem? (i := 68) rfl)) (args := #[]))) (mvT hZ (hw _ (List.mem_of_getElem? (i := 69) rfl))) (by decide) (backOf (W := 0) (rmlg l Z a0 hw [] so A B e N rc (own_L ((own_F A.toInt B.toInt e (N - cc)) - (own_F A.toInt B.toInt e (N - (cc + (kk + 1)))))) (kk + 1) h104 n0 (own_Sg_le S105) S105 (by omega)) hZ (hw _ (List.mem_of_getElem? (i := 69) rfl)) (hw _ (List.mem_of_getElem? (i := 9) rfl)) (by decide) (by decide)) (g := (mkF m 109 #[.val (.ref so), .val (.long lw), .second, .val (.long lw), .second, .val (.int (Int32.ofNat cc)), .val (.int (1 : Int32)), .val (.long (own_L (own_F A.toInt B.toInt e kk))), .second, .val (.int (Int32.ofNat kk)), .val (.long (own_L ((own_F A.toInt B.toInt e (N - cc)) - (own_F A.toInt B.toInt e (N - (cc + (kk + 1))))))), .second] [(.int (Int32.ofNat (kk + 1))), (.ref so)])) rfl (by rw [hml]; rfl) (Steps.refl _) (a := so) (by rw [e104]; exact q106) q106' (argsL := [(.int (Int32.ofNat (kk + 1)))]) (rest := []) (lenOf own_pd3 rfl) rfl (by show 2 * 0 + _ ≤ _; exact Nat.le_of_eq rfl) (hb hby dcg_109) (fun _ _ => ⟨rfl, e104, (by decide : 0 + 0 ≤ _), (by decide : 0 + 0 ≤ _)⟩)
          dsimp only [Pt.U, Pt.locs, Pt.cells, Pt.slots] at X106 l106 y106 z106 st106 hQ106
          subst l106 y106 z106
          obtain ⟨rfl, Nc, Sc⟩ := hQ106
          refine Rch.jump st106 ?_
          show Rch p ev below _ T106 (mkF m 112 #[.val (.ref so), .val (.long lw), .second, .val (.long lw), .second, .val (.int (Int32.ofNat cc)), .val (.int (1 : Int32)), .val (.long (own_L (own_F A.toInt B.toInt e kk))), .second, .val (.int (Int32.ofNat kk)), .val (.long (own_L ((own_F A.toInt B.toInt e (N - cc)) - (own_F A.toInt B.toInt e (N - (cc + (kk + 1))))))), .second] [(.long (own_L (own_F A.toInt B.toInt e (kk + 1))))])
          have N106 := Fr.app N104 Nc
          have S106 := Sc
          refine Rch.go (fun _ q => XS.lstore X106.here hx rfl (hb hby dcg_112) rfl (l' := #[.val (.ref so), .val (.long lw), .second, .val (.long lw), .second, .val (.int (Int32.ofNat cc)), .val (.int (1 : Int32)), .val (.long (own_L (own_F A.toInt B.toInt e (kk + 1)))), .second, .val (.int (Int32.ofNat kk)), .val (.long (own_L ((own_F A.toInt B.toInt e (N - cc)) - (own_F A.toInt B.toInt e (N - (cc + (kk + 1))))))), .second]) rfl q) ?_
          show Rch p ev below _ T106 (mkF m 114 #[.val (.ref so), .val (.long lw), .second, .val (.long lw), .second, .val (.int (Int32.ofNat cc)), .val (.int (1 : Int32)), .val (.long (own_L (own_F A.toInt B.toInt e (kk + 1)))), .second, .val (.int (Int32.ofNat kk)), .val (.long (own_L ((own_F A.toInt B.toInt e (N - cc)) - (own_F A.toInt B.toInt e (N - (cc + (kk + 1))))))), .second] [])
          refine Rch.go (fun _ q => XS.iinc X106.here hx rfl (hb hby dcg_114) rfl (l' := #[.val (.ref so), .val (.long lw), .second, .val (.long lw), .second, .val (.int (Int32.ofNat cc)), .val (.int (1 : Int32)), .val (.long (own_L (own_F A.toInt B.toInt e (kk + 1)))), .second, .val (.int (Int32.ofNat (kk + 1))), .val (.long (own_L ((own_F A.toInt B.toInt e (N - cc)) - (own_F A.toInt B.toInt e (N - (cc + (kk + 1))))))), .second]) (by show storeLocals _ 9 (.int (Int32.ofNat kk + (1 : Int32))) = _; rw [own_add1_N (by omega)]; rfl) q) ?_
          show Rch p ev below _ T106 (mkF m 117 #[.val (.ref so), .val (.long lw), .second, .val (.long lw), .second, .val (.int (Int32.ofNat cc)), .val (.int (1 : Int32)), .val (.long (own_L (own_F A.toInt B.toInt e (kk + 1)))), .second, .val (.int (Int32.ofNat (kk + 1))), .val (.long (own_L ((own_F A.toInt B.toInt e (N - cc)) - (own_F A.toInt B.toInt e (N - (cc + (kk + 1))))))), .second] [])
          refine Rch.go (fun _ q => XS.goto X106.here hx rfl (pc0 := 117) (pc' := 31) rfl (hb hby dcg_117) (by decide) (by decide) q) ?_
          show Rch p ev below _ T106 (mkF m 31 #[.val (.ref so), .val (.long lw), .second, .val (.long lw), .second, .val (.int (Int32.ofNat cc)), .val (.int (1 : Int32)), .val (.long (own_L (own_F A.toInt B.toInt e (kk + 1)))), .second, .val (.int (Int32.ofNat (kk + 1))), .val (.long (own_L ((own_F A.toInt B.toInt e (N - cc)) - (own_F A.toInt B.toInt e (N - (cc + (kk + 1))))))), .second] [])
          refine Rch.go (fun _ q => XS.lload X106.here hx rfl (hb hby dcg_31) rfl  q) ?_
          show Rch p ev below _ T106 (mkF m 33 #[.val (.ref so), .val (.long lw), .second, .val (.long lw), .second, .val (.int (Int32.ofNat cc)), .val (.int (1 : Int32)), .val (.long (own_L (own_F A.toInt B.toInt e (kk + 1)))), .second, .val (.int (Int32.ofNat (kk + 1))), .val (.long (own_L ((own_F A.toInt B.toInt e (N - cc)) - (own_F A.toInt B.toInt e (N - (cc + (kk + 1))))))), .second] [(.long (own_L (own_F A.toInt B.toInt e (kk + 1))))])
          refine Rch.go (fun _ q => XS.lloadN X106.here hx rfl (hb hby dcg_33) rfl  q) ?_
          show Rch p ev below _ T106 (mkF m 34 #[.val (.ref so), .val (.long lw), .second, .val (.long lw), .second, .val (.int (Int32.ofNat cc)), .val (.int (1 : Int32)), .val (.long (own_L (own_F A.toInt B.toInt e (kk + 1)))), .second, .val (.int (Int32.ofNat (kk + 1))), .val (.long (own_L ((own_F A.toInt B.toInt e (N - cc)) - (own_F A.toInt B.toInt e (N - (cc + (kk + 1))))))), .second] [(.long lw), (.long (own_L (own_F A.toInt B.toInt e (kk + 1))))])
          refine Rch.go (fun _ q => XS.lcmp X106.here hx rfl (hb hby dcg_34) rfl q) ?_
          show Rch p ev below _ T106 (mkF m 35 #[.val (.ref so), .val (.long lw), .second, .val (.long lw), .second, .val (.int (Int32.ofNat cc)), .val (.int (1 : Int32)), .val (.long (own_L (own_F A.toInt B.toInt e (kk + 1)))), .second, .val (.int (Int32.ofNat (kk + 1))), .val (.long (own_L ((own_F A.toInt B.toInt e (N - cc)) - (own_F A.toInt B.toInt e (N - (cc + (kk + 1))))))), .second] [(.int (lcmpW (own_L (own_F A.toInt B.toInt e (kk + 1))) lw))])
          by_cases hc35 : (own_F A.toInt B.toInt e (kk + 1)) < lw.toInt
          · skip
            refine Rch.go (fun _ q => XS.ifNo X106.here hx rfl (hb hby dcg_35) rfl ((if0 _ _).trans (tlt ((own_lc_lt (v := (own_F A.toInt B.toInt e (kk + 1))) (w := lw) (by omega) (by omega)).mpr hc35)).2.1) q) ?_
            show Rch p ev below _ T106 (mkF m 38 #[.val (.ref so), .val (.long lw), .second, .val (.long lw), .second, .val (.int (Int32.ofNat cc)), .val (.int (1 : Int32)), .val (.long (own_L (own_F A.toInt B.toInt e (kk + 1)))), .second, .val (.int (Int32.ofNat (kk + 1))), .val (.long (own_L ((own_F A.toInt B.toInt e (N - cc)) - (own_F A.toInt B.toInt e (N - (cc + (kk + 1))))))), .second] [])
            refine Rch.go (fun _ q => XS.iload X106.here hx rfl (hb hby dcg_38) rfl  q) ?_
            show Rch p ev below _ T106 (mkF m 40 #[.val (.ref so), .val (.long lw), .second, .val (.long lw), .second, .val (.int (Int32.ofNat cc)), .val (.int (1 : Int32)), .val (.long (own_L (own_F A.toInt B.toInt e (kk + 1)))), .second, .val (.int (Int32.ofNat (kk + 1))), .val (.long (own_L ((own_F A.toInt B.toInt e (N - cc)) - (own_F A.toInt B.toInt e (N - (cc + (kk + 1))))))), .second] [(.int (1 : Int32))])
            refine Rch.go (fun _ q => XS.ifYes X106.here hx rfl (pc0 := 40) (pc' := 120) rfl (hb hby dcg_40) rfl ((if0 _ _).trans (feq (by decide)).2) (by decide) (by decide) q) ?_
            show Rch p ev below _ T106 (mkF m 120 #[.val (.ref so), .val (.long lw), .second, .val (.long lw), .second, .val (.int (Int32.ofNat cc)), .val (.int (1 : Int32)), .val (.long (own_L (own_F A.toInt B.toInt e (kk + 1)))), .second, .val (.int (Int32.ofNat (kk + 1))), .val (.long (own_L ((own_F A.toInt B.toInt e (N - cc)) - (own_F A.toInt B.toInt e (N - (cc + (kk + 1))))))), .second] [])
            refine Rch.go (fun _ q => XS.iload X106.here hx rfl (hb hby dcg_120) rfl  q) ?_
            show Rch p ev below _ T106 (mkF m 122 #[.val (.ref so), .val (.long lw), .second, .val (.long lw), .second, .val (.int (Int32.ofNat cc)), .val (.int (1 : Int32)), .val (.long (own_L (own_F A.toInt B.toInt e (kk + 1)))), .second, .val (.int (Int32.ofNat (kk + 1))), .val (.long (own_L ((own_F A.toInt B.toInt e (N - cc)) - (own_F A.toInt B.toInt e (N - (cc + (kk + 1))))))), .second] [(.int (1 : Int32))])
            refine Rch.retZ X106 hx hlk Bd.returns (hb hby dcg_122) (by decide) (by decide) ?_
            unfold Qrmcg
            exact ⟨1, _, rfl, N106, S106, Or.inl ⟨rfl, kk, cc, by omega, hk1, by rw [own_L_int _ (by omega) (by omega)]; omega, own_L_int _ (by omega) (by omega)⟩⟩
          · skip
            refine Rch.go (fun _ q => XS.ifYes X106.here hx rfl (pc0 := 35) (pc' := 120) rfl (hb hby dcg_35) rfl ((if0 _ _).trans (flt ((mt (own_lc_lt (v := (own_F A.toInt B.toInt e (kk + 1))) (w := lw) (by omega) (by omega)).mp hc35))).2.1) (by decide) (by decide) q) ?_
            show Rch p ev below _ T106 (mkF m 120 #[.val (.ref so), .val (.long lw), .second, .val (.long lw), .second, .val (.int (Int32.ofNat cc)), .val (.int (1 : Int32)), .val (.long (own_L (own_F A.toInt B.toInt e (kk + 1)))), .second, .val (.int (Int32.ofNat (kk + 1))), .val (.long (own_L ((own_F A.toInt B.toInt e (N - cc)) - (own_F A.toInt B.toInt e (N - (cc + (kk + 1))))))), .second] [])
            refine Rch.go (fun _ q => XS.iload X106.here hx rfl (hb hby dcg_120) rfl  q) ?_
            show Rch p ev below _ T106 (mkF m 122 #[.val (.ref so), .val (.long lw), .second, .val (.long lw), .second, .val (.int (Int32.ofNat cc)), .val (.int (1 : Int32)), .val (.long (own_L (own_F A.toInt B.toInt e (kk + 1)))), .second, .val (.int (Int32.ofNat (kk + 1))), .val (.long (own_L ((own_F A.toInt B.toInt e (N - cc)) - (own_F A.toInt B.toInt e (N - (cc + (kk + 1))))))), .second] [(.int (1 : Int32))])
            refine Rch.retZ X106 hx hlk Bd.returns (hb hby dcg_122) (by decide) (by decide) ?_
            unfold Qrmcg
            exact ⟨1, _, rfl, N106, S106, Or.inl ⟨rfl, kk, cc, by omega, hk1, by rw [own_L_int _ (by omega) (by omega)]; omega, own_L_int _ (by omega) (by omega)⟩⟩
        · skip
          refine Rch.go (fun _ q => XS.ifYes X101.here hx rfl (pc0 := 79) (pc' := 104) rfl (hb hby dcg_79) rfl ((if0 _ _).trans (flt ((mt (own_lc_gt (v := ((own_F A.toInt B.toInt e (N - cc)) - (own_F A.toInt B.toInt e (N - (cc + (kk + 1)))))) (w := lw) (by omega) (by omega)).mp hc79))).2.2.2) (by decide) (by decide) q) ?_
          show Rch p ev below _ T101 (mkF m 104 #[.val (.ref so), .val (.long lw), .second, .val (.long lw), .second, .val (.int (Int32.ofNat cc)), .val (.int (0 : Int32)), .val (.long (own_L (own_F A.toInt B.toInt e kk))), .second, .val (.int (Int32.ofNat kk)), .val (.long (own_L ((own_F A.toInt B.toInt e (N - cc)) - (own_F A.toInt B.toInt e (N - (cc + (kk + 1))))))), .second] [])
          refine Rch.go (fun _ q => XS.aloadN X101.here hx rfl (hb hby dcg_104) rfl rfl q) ?_
          show Rch p ev below _ T101 (mkF m 105 #[.val (.ref so), .val (.long lw), .second, .val (.long lw), .second, .val (.int (Int32.ofNat cc)), .val (.int (0 : Int32)), .val (.long (own_L (own_F A.toInt B.toInt e kk))), .second, .val (.int (Int32.ofNat kk)), .val (.long (own_L ((own_F A.toInt B.toInt e (N - cc)) - (own_F A.toInt B.toInt e (N - (cc + (kk + 1))))))), .second] [(.ref so)])
          refine Rch.go (fun _ q => XS.iload X101.here hx rfl (hb hby dcg_105) rfl  q) ?_
          show Rch p ev below _ T101 (mkF m 107 #[.val (.ref so), .val (.long lw), .second, .val (.long lw), .second, .val (.int (Int32.ofNat cc)), .val (.int (0 : Int32)), .val (.long (own_L (own_F A.toInt B.toInt e kk))), .second, .val (.int (Int32.ofNat kk)), .val (.long (own_L ((own_F A.toInt B.toInt e (N - cc)) - (own_F A.toInt B.toInt e (N - (cc + (kk + 1))))))), .second] [(.int (Int32.ofNat kk)), (.ref so)])
          refine Rch.go (fun _ q => XS.iconst X101.here hx rfl (hb hby dcg_107) q) ?_
          show Rch p ev below _ T101 (mkF m 108 #[.val (.ref so), .val (.long lw), .second, .val (.long lw), .second, .val (.int (Int32.ofNat cc)), .val (.int (0 : Int32)), .val (.long (own_L (own_F A.toInt B.toInt e kk))), .second, .val (.int (Int32.ofNat kk)), .val (.long (own_L ((own_F A.toInt B.toInt e (N - cc)) - (own_F A.toInt B.toInt e (N - (cc + (kk + 1))))))), .second] [(.int (1 : Int32)), (.int (Int32.ofNat kk)), (.ref so)])
          refine Rch.go (fun _ q => XS.iadd X101.here hx rfl (hb hby dcg_108) rfl q) ?_
          show Rch p ev below _ T101 (mkF m 109 #[.val (.ref so), .val (.long lw), .second, .val (.long lw), .second, .val (.int (Int32.ofNat cc)), .val (.int (0 : Int32)), .val (.long (own_L (own_F A.toInt B.toInt e kk))), .second, .val (.int (Int32.ofNat kk)), .val (.long (own_L ((own_F A.toInt B.toInt e (N - cc)) - (own_F A.toInt B.toInt e (N - (cc + (kk + 1))))))), .second] [(.int ((Int32.ofNat kk) + (1 : Int32))), (.ref so)])
          rw [show (Int32.ofNat kk + (1 : Int32)) = (Int32.ofNat (kk + 1)) from (own_add1_N (by omega))]
          show Rch p ev below _ T101 (mkF m 109 #[.val (.ref so), .val (.long lw), .second, .val (.long lw), .second, .val (.int (Int32.ofNat cc)), .val (.int (0 : Int32)), .val (.long (own_L (own_F A.toInt B.toInt e kk))), .second, .val (.int (Int32.ofNat kk)), .val (.long (own_L ((own_F A.toInt B.toInt e (N - cc)) - (own_F A.toInt B.toInt e (N - (cc + (kk + 1))))))), .second] [(.int (Int32.ofNat (kk + 1))), (.ref so)])
          obtain ⟨cq107, q107, q107'⟩ := Exa.cell (own_Sg_exa S101)
          obtain ⟨_, _, ⟨T107, L107, k107, n107⟩, -, X107, ⟨Lc107, hQ107, l107, y107, z107⟩, st107⟩ := X101.privateBack hx (y := (⟨"com/example/binflow/binflow/solve/SubsetSums", "largest", "(I)J"⟩ : MethodName)) hown (mvT hZ (hw _ (List.mem_of_getElem? (i := 66) rfl))) (mvT hZ (hw _ (List.mem_of_getElem? (i := 67) rfl))) (mvT hZ (own_sel (by decide) (hw _ (List.mem_of_getElem? (i := 8) rfl)) (hw _ (List.mem_of_getElem? (i := 68) rfl)) (hw _ (List.mem_of_getElem? (i := 67) rfl)))) (Cond.privateMethod_at (mvP hZ (hw _ (List.mem_of_getElem? (i := 68) rfl)) (args := #[]))) (mvT hZ (hw _ (List.mem_of_getElem? (i := 69) rfl))) (by decide) (backOf (W := 0) (rmlg l Z a0 hw [] so A B e N rc gl (kk + 1) T101.heap n0 (own_Sg_le S101) S101 (by omega)) hZ (hw _ (List.mem_of_getElem? (i := 69) rfl)) (hw _ (List.mem_of_getElem? (i := 9) rfl)) (by decide) (by decide)) (g := (mkF m 109 #[.val (.ref so), .val (.long lw), .second, .val (.long lw), .second, .val (.int (Int32.ofNat cc)), .val (.int (0 : Int32)), .val (.long (own_L (own_F A.toInt B.toInt e kk))), .second, .val (.int (Int32.ofNat kk)), .val (.long (own_L ((own_F A.toInt B.toInt e (N - cc)) - (own_F A.toInt B.toInt e (N - (cc + (kk + 1))))))), .second] [(.int (Int32.ofNat (kk + 1))), (.ref so)])) rfl (by rw [hml]; rfl) (Steps.refl _) (a := so) q107 q107' (argsL := [(.int (Int32.ofNat (kk + 1)))]) (rest := []) (lenOf own_pd3 rfl) rfl (by show 2 * 0 + _ ≤ _; exact Nat.le_of_eq rfl) (hb hby dcg_109) (fun _ _ => ⟨rfl, rfl, (by decide : 0 + 0 ≤ _), (by decide : 0 + 0 ≤ _)⟩)
          dsimp only [Pt.U, Pt.locs, Pt.cells, Pt.slots] at X107 l107 y107 z107 st107 hQ107
          subst l107 y107 z107
          obtain ⟨rfl, Nc, Sc⟩ := hQ107
          refine Rch.jump st107 ?_
          show Rch p ev below _ T107 (mkF m 112 #[.val (.ref so), .val (.long lw), .second, .val (.long lw), .second, .val (.int (Int32.ofNat cc)), .val (.int (0 : Int32)), .val (.long (own_L (own_F A.toInt B.toInt e kk))), .second, .val (.int (Int32.ofNat kk)), .val (.long (own_L ((own_F A.toInt B.toInt e (N - cc)) - (own_F A.toInt B.toInt e (N - (cc + (kk + 1))))))), .second] [(.long (own_L (own_F A.toInt B.toInt e (kk + 1))))])
          have N107 := Fr.app N101 Nc
          have S107 := Sc
          refine Rch.go (fun _ q => XS.lstore X107.here hx rfl (hb hby dcg_112) rfl (l' := #[.val (.ref so), .val (.long lw), .second, .val (.long lw), .second, .val (.int (Int32.ofNat cc)), .val (.int (0 : Int32)), .val (.long (own_L (own_F A.toInt B.toInt e (kk + 1)))), .second, .val (.int (Int32.ofNat kk)), .val (.long (own_L ((own_F A.toInt B.toInt e (N - cc)) - (own_F A.toInt B.toInt e (N - (cc + (kk + 1))))))), .second]) rfl q) ?_
          show Rch p ev below _ T107 (mkF m 114 #[.val (.ref so), .val (.long lw), .second, .val (.long lw), .second, .val (.int (Int32.ofNat cc)), .val (.int (0 : Int32)), .val (.long (own_L (own_F A.toInt B.toInt e (kk + 1)))), .second, .val (.int (Int32.ofNat kk)), .val (.long (own_L ((own_F A.toInt B.toInt e (N - cc)) - (own_F A.toInt B.toInt e (N - (cc + (kk + 1))))))), .second] [])
          refine Rch.go (fun _ q => XS.iinc X107.here hx rfl (hb hby dcg_114) rfl (l' := #[.val (.ref so), .val (.long lw), .second, .val (.long lw), .second, .val (.int (Int32.ofNat cc)), .val (.int (0 : Int32)), .val (.long (own_L (own_F A.toInt B.toInt e (kk + 1)))), .second, .val (.int (Int32.ofNat (kk + 1))), .val (.long (own_L ((own_F A.toInt B.toInt e (N - cc)) - (own_F A.toInt B.toInt e (N - (cc + (kk + 1))))))), .second]) (by show storeLocals _ 9 (.int (Int32.ofNat kk + (1 : Int32))) = _; rw [own_add1_N (by omega)]; rfl) q) ?_
          show Rch p ev below _ T107 (mkF m 117 #[.val (.ref so), .val (.long lw), .second, .val (.long lw), .second, .val (.int (Int32.ofNat cc)), .val (.int (0 : Int32)), .val (.long (own_L (own_F A.toInt B.toInt e (kk + 1)))), .second, .val (.int (Int32.ofNat (kk + 1))), .val (.long (own_L ((own_F A.toInt B.toInt e (N - cc)) - (own_F A.toInt B.toInt e (N - (cc + (kk + 1))))))), .second] [])
          refine Rch.go (fun _ q => XS.goto X107.here hx rfl (pc0 := 117) (pc' := 31) rfl (hb hby dcg_117) (by decide) (by decide) q) ?_
          show Rch p ev below _ T107 (mkF m 31 #[.val (.ref so), .val (.long lw), .second, .val (.long lw), .second, .val (.int (Int32.ofNat cc)), .val (.int (0 : Int32)), .val (.long (own_L (own_F A.toInt B.toInt e (kk + 1)))), .second, .val (.int (Int32.ofNat (kk + 1))), .val (.long (own_L ((own_F A.toInt B.toInt e (N - cc)) - (own_F A.toInt B.toInt e (N - (cc + (kk + 1))))))), .second] [])
          exact ih _ _ _ _ cc (kk + 1) _ _ X107 rfl N107 S107 hcc (by omega) (by omega) (Or.inr ⟨_, rfl, rfl⟩) (Or.inr ⟨cc, by omega, by rw [Nat.add_sub_cancel]; exact hk1, by rw [Nat.add_sub_cancel]; omega⟩)
      have loop3 : ∀ (cc : Nat) (Tl : State) (hl : Heap) (Ll : List Loc) (gl : Int64), Stand p l ev ({ frames := 5, cells := 0, slots := 0, locals := 72 } : Room) s m #[(.ref so), (.long lw), (.long lw)] below meth c Tl Ll 0 0 → Tl.heap = hl → Fr n0 Ll → own_Sg Z hl n0 so A B e N rc (-1 : Int32) gl → cc + 1 ≤ N → (own_F A.toInt B.toInt e kk) < lw.toInt → Rch p ev below (EndQ (Qrmcg Z so lw A B e N rc ga h0 n0) s ({ frames := 5, cells := 0, slots := 0, locals := 72 } : Room).cells ({ frames := 5, cells := 0, slots := 0, locals := 72 } : Room).slots) Tl (mkF m 43 #[.val (.ref so), .val (.long lw), .second, .val (.long lw), .second, .val (.int (Int32.ofNat cc)), .val (.int (0 : Int32)), .val (.long (own_L (own_F A.toInt B.toInt e kk))), .second, .val (.int (Int32.ofNat kk)), s10, s11] []) := by
        intro cc
        induction cc with
        | zero =>
          intro Tl hl Ll gl Xl el Nl Sl hcc hk1
          have d1 := hF (N - 0) (by omega)
          have hz : (own_F A.toInt B.toInt e kk) + ((own_F A.toInt B.toInt e N) - (own_F A.toInt B.toInt e (N - 0))) < lw.toInt := by rw [Nat.sub_zero]; omega
          show Rch p ev below _ Tl (mkF m 43 #[.val (.ref so), .val (.long lw), .second, .val (.long lw), .second, .val (.int (Int32.ofNat 0)), .val (.int (0 : Int32)), .val (.long (own_L (own_F A.toInt B.toInt e kk))), .second, .val (.int (Int32.ofNat kk)), s10, s11] [])
          refine Rch.go (fun _ q => XS.lload Xl.here hx rfl (hb hby dcg_43) rfl  q) ?_
          show Rch p ev below _ Tl (mkF m 45 #[.val (.ref so), .val (.long lw), .second, .val (.long lw), .second, .val (.int (Int32.ofNat 0)), .val (.int (0 : Int32)), .val (.long (own_L (own_F A.toInt B.toInt e kk))), .second, .val (.int (Int32.ofNat kk)), s10, s11] [(.long (own_L (own_F A.toInt B.toInt e kk)))])
          refine Rch.go (fun _ q => XS.aloadN Xl.here hx rfl (hb hby dcg_45) rfl rfl q) ?_
          show Rch p ev below _ Tl (mkF m 46 #[.val (.ref so), .val (.long lw), .second, .val (.long lw), .second, .val (.int (Int32.ofNat 0)), .val (.int (0 : Int32)), .val (.long (own_L (own_F A.toInt B.toInt e kk))), .second, .val (.int (Int32.ofNat kk)), s10, s11] [(.ref so), (.long (own_L (own_F A.toInt B.toInt e kk)))])
          refine Rch.go (fun _ q => XS.iload Xl.here hx rfl (hb hby dcg_46) rfl  q) ?_
          show Rch p ev below _ Tl (mkF m 48 #[.val (.ref so), .val (.long lw), .second, .val (.long lw), .second, .val (.int (Int32.ofNat 0)), .val (.int (0 : Int32)), .val (.long (own_L (own_F A.toInt B.toInt e kk))), .second, .val (.int (Int32.ofNat kk)), s10, s11] [(.int (Int32.ofNat 0)), (.ref so), (.long (own_L (own_F A.toInt B.toInt e kk)))])
          obtain ⟨cq108, q108, q108'⟩ := Exa.cell (own_Sg_exa Sl)
          obtain ⟨_, _, ⟨T108, L108, k108, n108⟩, -, X108, ⟨Lc108, hQ108, l108, y108, z108⟩, st108⟩ := Xl.privateBack hx (y := (⟨"com/example/binflow/binflow/solve/SubsetSums", "smallest", "(I)J"⟩ : MethodName)) hown (mvT hZ (hw _ (List.mem_of_getElem? (i := 107) rfl))) (mvT hZ (hw _ (List.mem_of_getElem? (i := 108) rfl))) (mvT hZ (own_sel (by decide) (hw _ (List.mem_of_getElem? (i := 8) rfl)) (hw _ (List.mem_of_getElem? (i := 109) rfl)) (hw _ (List.mem_of_getElem? (i := 108) rfl)))) (Cond.privateMethod_at (mvP hZ (hw _ (List.mem_of_getElem? (i := 109) rfl)) (args := #[]))) (mvT hZ (hw _ (List.mem_of_getElem? (i := 110) rfl))) (by decide) (backOf (W := 2) (rmsm l Z a0 hw [] so A B e N rc gl 0 hl n0 (own_Sg_le Sl) Sl (by omega)) hZ (hw _ (List.mem_of_getElem? (i := 110) rfl)) (hw _ (List.mem_of_getElem? (i := 9) rfl)) (by decide) (by decide)) (g := (mkF m 48 #[.val (.ref so), .val (.long lw), .second, .val (.long lw), .second, .val (.int (Int32.ofNat 0)), .val (.int (0 : Int32)), .val (.long (own_L (own_F A.toInt B.toInt e kk))), .second, .val (.int (Int32.ofNat kk)), s10, s11] [(.int (Int32.ofNat 0)), (.ref so), (.long (own_L (own_F A.toInt B.toInt e kk)))])) rfl (by rw [hml]; rfl) (Steps.refl _) (a := so) (by rw [el]; exact q108) q108' (argsL := [(.int (Int32.ofNat 0))]) (rest := [(.long (own_L (own_F A.toInt B.toInt e kk)))]) (lenOf own_pd3 rfl) rfl (by show 2 * 0 + _ ≤ _; exact Nat.le_of_eq rfl) (hb hby dcg_48) (fun _ _ => ⟨rfl, el, (by decide : 0 + 0 ≤ _), (by decide : 0 + 0 ≤ _)⟩)
          dsimp only [Pt.U, Pt.locs, Pt.cells, Pt.slots] at X108 l108 y108 z108 st108 hQ108
          subst l108 y108 z108
          obtain ⟨rfl, Nc, Sc⟩ := hQ108
          refine Rch.jump st108 ?_
          show Rch p ev below _ T108 (mkF m 51 #[.val (.ref so), .val (.long lw), .second, .val (.long lw), .second, .val (.int (Int32.ofNat 0)), .val (.int (0 : Int32)), .val (.long (own_L (own_F A.toInt B.toInt e kk))), .second, .val (.int (Int32.ofNat kk)), s10, s11] [(.long (own_L ((own_F A.toInt B.toInt e N) - (own_F A.toInt B.toInt e (N - 0))))), (.long (own_L (own_F A.toInt B.toInt e kk)))])
          have N108 := Fr.app Nl Nc
          have S108 := Sc
          refine Rch.go (fun _ q => XS.ladd X108.here hx rfl (hb hby dcg_51) rfl q) ?_
          show Rch p ev below _ T108 (mkF m 52 #[.val (.ref so), .val (.long lw), .second, .val (.long lw), .second, .val (.int (Int32.ofNat 0)), .val (.int (0 : Int32)), .val (.long (own_L (own_F A.toInt B.toInt e kk))), .second, .val (.int (Int32.ofNat kk)), s10, s11] [(.long ((own_L (own_F A.toInt B.toInt e kk)) + (own_L ((own_F A.toInt B.toInt e N) - (own_F A.toInt B.toInt e (N - 0))))))])
          rw [show (own_L (own_F A.toInt B.toInt e kk) + own_L ((own_F A.toInt B.toInt e N) - (own_F A.toInt B.toInt e (N - 0)))) = (own_L ((own_F A.toInt B.toInt e kk) + ((own_F A.toInt B.toInt e N) - (own_F A.toInt B.toInt e (N - 0))))) from (own_L_add _ _)]
          show Rch p ev below _ T108 (mkF m 52 #[.val (.ref so), .val (.long lw), .second, .val (.long lw), .second, .val (.int (Int32.ofNat 0)), .val (.int (0 : Int32)), .val (.long (own_L (own_F A.toInt B.toInt e kk))), .second, .val (.int (Int32.ofNat kk)), s10, s11] [(.long (own_L ((own_F A.toInt B.toInt e kk) + ((own_F A.toInt B.toInt e N) - (own_F A.toInt B.toInt e (N - 0))))))])
          refine Rch.go (fun _ q => XS.lloadN X108.here hx rfl (hb hby dcg_52) rfl  q) ?_
          show Rch p ev below _ T108 (mkF m 53 #[.val (.ref so), .val (.long lw), .second, .val (.long lw), .second, .val (.int (Int32.ofNat 0)), .val (.int (0 : Int32)), .val (.long (own_L (own_F A.toInt B.toInt e kk))), .second, .val (.int (Int32.ofNat kk)), s10, s11] [(.long lw), (.long (own_L ((own_F A.toInt B.toInt e kk) + ((own_F A.toInt B.toInt e N) - (own_F A.toInt B.toInt e (N - 0))))))])
          refine Rch.go (fun _ q => XS.lcmp X108.here hx rfl (hb hby dcg_53) rfl q) ?_
          show Rch p ev below _ T108 (mkF m 54 #[.val (.ref so), .val (.long lw), .second, .val (.long lw), .second, .val (.int (Int32.ofNat 0)), .val (.int (0 : Int32)), .val (.long (own_L (own_F A.toInt B.toInt e kk))), .second, .val (.int (Int32.ofNat kk)), s10, s11] [(.int (lcmpW (own_L ((own_F A.toInt B.toInt e kk) + ((own_F A.toInt B.toInt e N) - (own_F A.toInt B.toInt e (N - 0))))) lw))])
          refine Rch.go (fun _ q => XS.ifYes X108.here hx rfl (pc0 := 54) (pc' := 63) rfl (hb hby dcg_54) rfl ((if0 _ _).trans (tlt ((own_lc_lt (v := ((own_F A.toInt B.toInt e kk) + ((own_F A.toInt B.toInt e N) - (own_F A.toInt B.toInt e (N - 0))))) (w := lw) (by omega) (by omega)).mpr hz)).1) (by decide) (by decide) q) ?_
          show Rch p ev below _ T108 (mkF m 63 #[.val (.ref so), .val (.long lw), .second, .val (.long lw), .second, .val (.int (Int32.ofNat 0)), .val (.int (0 : Int32)), .val (.long (own_L (own_F A.toInt B.toInt e kk))), .second, .val (.int (Int32.ofNat kk)), s10, s11] [])
          exact rest _ _ _ _ 0 X108 rfl N108 S108 hcc hk1 hz
        | succ cc ic =>
          intro Tl hl Ll gl Xl el Nl Sl hcc hk1
          have d1 := hF (N - (cc + 1)) (by omega)
          show Rch p ev below _ Tl (mkF m 43 #[.val (.ref so), .val (.long lw), .second, .val (.long lw), .second, .val (.int (Int32.ofNat (cc + 1))), .val (.int (0 : Int32)), .val (.long (own_L (own_F A.toInt B.toInt e kk))), .second, .val (.int (Int32.ofNat kk)), s10, s11] [])
          refine Rch.go (fun _ q => XS.lload Xl.here hx rfl (hb hby dcg_43) rfl  q) ?_
          show Rch p ev below _ Tl (mkF m 45 #[.val (.ref so), .val (.long lw), .second, .val (.long lw), .second, .val (.int (Int32.ofNat (cc + 1))), .val (.int (0 : Int32)), .val (.long (own_L (own_F A.toInt B.toInt e kk))), .second, .val (.int (Int32.ofNat kk)), s10, s11] [(.long (own_L (own_F A.toInt B.toInt e kk)))])
          refine Rch.go (fun _ q => XS.aloadN Xl.here hx rfl (hb hby dcg_45) rfl rfl q) ?_
          show Rch p ev below _ Tl (mkF m 46 #[.val (.ref so), .val (.long lw), .second, .val (.long lw), .second, .val (.int (Int32.ofNat (cc + 1))), .val (.int (0 : Int32)), .val (.long (own_L (own_F A.toInt B.toInt e kk))), .second, .val (.int (Int32.ofNat kk)), s10, s11] [(.ref so), (.long (own_L (own_F A.toInt B.toInt e kk)))])
          refine Rch.go (fun _ q => XS.iload Xl.here hx rfl (hb hby dcg_46) rfl  q) ?_
          show Rch p ev below _ Tl (mkF m 48 #[.val (.ref so), .val (.long lw), .second, .val (.long lw), .second, .val (.int (Int32.ofNat (cc + 1))), .val (.int (0 : Int32)), .val (.long (own_L (own_F A.toInt B.toInt e kk))), .second, .val (.int (Int32.ofNat kk)), s10, s11] [(.int (Int32.ofNat (cc + 1))), (.ref so), (.long (own_L (own_F A.toInt B.toInt e kk)))])
          obtain ⟨cq109, q109, q109'⟩ := Exa.cell (own_Sg_exa Sl)
          obtain ⟨_, _, ⟨T109, L109, k109, n109⟩, -, X109, ⟨Lc109, hQ109, l109, y109, z109⟩, st109⟩ := Xl.privateBack hx (y := (⟨"com/example/binflow/binflow/solve/SubsetSums", "smallest", "(I)J"⟩ : MethodName)) hown (mvT hZ (hw _ (List.mem_of_getElem? (i := 107) rfl))) (mvT hZ (hw _ (List.mem_of_getElem? (i := 108) rfl))) (mvT hZ (own_sel (by decide) (hw _ (List.mem_of_getElem? (i := 8) rfl)) (hw _ (List.mem_of_getElem? (i := 109) rfl)) (hw _ (List.mem_of_getElem? (i := 108) rfl)))) (Cond.privateMethod_at (mvP hZ (hw _ (List.mem_of_getElem? (i := 109) rfl)) (args := #[]))) (mvT hZ (hw _ (List.mem_of_getElem? (i := 110) rfl))) (by decide) (backOf (W := 2) (rmsm l Z a0 hw [] so A B e N rc gl (cc + 1) hl n0 (own_Sg_le Sl) Sl (by omega)) hZ (hw _ (List.mem_of_getElem? (i := 110) rfl)) (hw _ (List.mem_of_getElem? (i := 9) rfl)) (by decide) (by decide)) (g := (mkF m 48 #[.val (.ref so), .val (.long lw), .second, .val (.long lw), .second, .val (.int (Int32.ofNat (cc + 1))), .val (.int (0 : Int32)), .val (.long (own_L (own_F A.toInt B.toInt e kk))), .second, .val (.int (Int32.ofNat kk)), s10, s11] [(.int (Int32.ofNat (cc + 1))), (.ref so), (.long (own_L (own_F A.toInt B.toInt e kk)))])) rfl (by rw [hml]; rfl) (Steps.refl _) (a := so) (by rw [el]; exact q109) q109' (argsL := [(.int (Int32.ofNat (cc + 1)))]) (rest := [(.long (own_L (own_F A.toInt B.toInt e kk)))]) (lenOf own_pd3 rfl) rfl (by show 2 * 0 + _ ≤ _; exact Nat.le_of_eq rfl) (hb hby dcg_48) (fun _ _ => ⟨rfl, el, (by decide : 0 + 0 ≤ _), (by decide : 0 + 0 ≤ _)⟩)
          dsimp only [Pt.U, Pt.locs, Pt.cells, Pt.slots] at X109 l109 y109 z109 st109 hQ109
          subst l109 y109 z109
          obtain ⟨rfl, Nc, Sc⟩ := hQ109
          refine Rch.jump st109 ?_
          show Rch p ev below _ T109 (mkF m 51 #[.val (.ref so), .val (.long lw), .second, .val (.long lw), .second, .val (.int (Int32.ofNat (cc + 1))), .val (.int (0 : Int32)), .val (.long (own_L (own_F A.toInt B.toInt e kk))), .second, .val (.int (Int32.ofNat kk)), s10, s11] [(.long (own_L ((own_F A.toInt B.toInt e N) - (own_F A.toInt B.toInt e (N - (cc + 1)))))), (.long (own_L (own_F A.toInt B.toInt e kk)))])
          have N109 := Fr.app Nl Nc
          have S109 := Sc
          refine Rch.go (fun _ q => XS.ladd X109.here hx rfl (hb hby dcg_51) rfl q) ?_
          show Rch p ev below _ T109 (mkF m 52 #[.val (.ref so), .val (.long lw), .second, .val (.long lw), .second, .val (.int (Int32.ofNat (cc + 1))), .val (.int (0 : Int32)), .val (.long (own_L (own_F A.toInt B.toInt e kk))), .second, .val (.int (Int32.ofNat kk)), s10, s11] [(.long ((own_L (own_F A.toInt B.toInt e kk)) + (own_L ((own_F A.toInt B.toInt e N) - (own_F A.toInt B.toInt e (N - (cc + 1)))))))])
          rw [show (own_L (own_F A.toInt B.toInt e kk) + own_L ((own_F A.toInt B.toInt e N) - (own_F A.toInt B.toInt e (N - (cc + 1))))) = (own_L ((own_F A.toInt B.toInt e kk) + ((own_F A.toInt B.toInt e N) - (own_F A.toInt B.toInt e (N - (cc + 1)))))) from (own_L_add _ _)]
          show Rch p ev below _ T109 (mkF m 52 #[.val (.ref so), .val (.long lw), .second, .val (.long lw), .second, .val (.int (Int32.ofNat (cc + 1))), .val (.int (0 : Int32)), .val (.long (own_L (own_F A.toInt B.toInt e kk))), .second, .val (.int (Int32.ofNat kk)), s10, s11] [(.long (own_L ((own_F A.toInt B.toInt e kk) + ((own_F A.toInt B.toInt e N) - (own_F A.toInt B.toInt e (N - (cc + 1)))))))])
          refine Rch.go (fun _ q => XS.lloadN X109.here hx rfl (hb hby dcg_52) rfl  q) ?_
          show Rch p ev below _ T109 (mkF m 53 #[.val (.ref so), .val (.long lw), .second, .val (.long lw), .second, .val (.int (Int32.ofNat (cc + 1))), .val (.int (0 : Int32)), .val (.long (own_L (own_F A.toInt B.toInt e kk))), .second, .val (.int (Int32.ofNat kk)), s10, s11] [(.long lw), (.long (own_L ((own_F A.toInt B.toInt e kk) + ((own_F A.toInt B.toInt e N) - (own_F A.toInt B.toInt e (N - (cc + 1)))))))])
          refine Rch.go (fun _ q => XS.lcmp X109.here hx rfl (hb hby dcg_53) rfl q) ?_
          show Rch p ev below _ T109 (mkF m 54 #[.val (.ref so), .val (.long lw), .second, .val (.long lw), .second, .val (.int (Int32.ofNat (cc + 1))), .val (.int (0 : Int32)), .val (.long (own_L (own_F A.toInt B.toInt e kk))), .second, .val (.int (Int32.ofNat kk)), s10, s11] [(.int (lcmpW (own_L ((own_F A.toInt B.toInt e kk) + ((own_F A.toInt B.toInt e N) - (own_F A.toInt B.toInt e (N - (cc + 1)))))) lw))])
          by_cases hc54 : ((own_F A.toInt B.toInt e kk) + ((own_F A.toInt B.toInt e N) - (own_F A.toInt B.toInt e (N - (cc + 1))))) < lw.toInt
          · skip
            refine Rch.go (fun _ q => XS.ifYes X109.here hx rfl (pc0 := 54) (pc' := 63) rfl (hb hby dcg_54) rfl ((if0 _ _).trans (tlt ((own_lc_lt (v := ((own_F A.toInt B.toInt e kk) + ((own_F A.toInt B.toInt e N) - (own_F A.toInt B.toInt e (N - (cc + 1)))))) (w := lw) (by omega) (by omega)).mpr hc54)).1) (by decide) (by decide) q) ?_
            show Rch p ev below _ T109 (mkF m 63 #[.val (.ref so), .val (.long lw), .second, .val (.long lw), .second, .val (.int (Int32.ofNat (cc + 1))), .val (.int (0 : Int32)), .val (.long (own_L (own_F A.toInt B.toInt e kk))), .second, .val (.int (Int32.ofNat kk)), s10, s11] [])
            exact rest _ _ _ _ (cc + 1) X109 rfl N109 S109 hcc hk1 hc54
          · skip
            refine Rch.go (fun _ q => XS.ifNo X109.here hx rfl (hb hby dcg_54) rfl ((if0 _ _).trans (flt ((mt (own_lc_lt (v := ((own_F A.toInt B.toInt e kk) + ((own_F A.toInt B.toInt e N) - (own_F A.toInt B.toInt e (N - (cc + 1)))))) (w := lw) (by omega) (by omega)).mp hc54))).1) q) ?_
            show Rch p ev below _ T109 (mkF m 57 #[.val (.ref so), .val (.long lw), .second, .val (.long lw), .second, .val (.int (Int32.ofNat (cc + 1))), .val (.int (0 : Int32)), .val (.long (own_L (own_F A.toInt B.toInt e kk))), .second, .val (.int (Int32.ofNat kk)), s10, s11] [])
            refine Rch.go (fun _ q => XS.iinc X109.here hx rfl (hb hby dcg_57) rfl (l' := #[.val (.ref so), .val (.long lw), .second, .val (.long lw), .second, .val (.int (Int32.ofNat cc)), .val (.int (0 : Int32)), .val (.long (own_L (own_F A.toInt B.toInt e kk))), .second, .val (.int (Int32.ofNat kk)), s10, s11]) (by show storeLocals _ 5 (.int (Int32.ofNat (cc + 1) + (-1 : Int32))) = _; rw [own_dec_N (by omega)]; rfl) q) ?_
            show Rch p ev below _ T109 (mkF m 60 #[.val (.ref so), .val (.long lw), .second, .val (.long lw), .second, .val (.int (Int32.ofNat cc)), .val (.int (0 : Int32)), .val (.long (own_L (own_F A.toInt B.toInt e kk))), .second, .val (.int (Int32.ofNat kk)), s10, s11] [])
            refine Rch.go (fun _ q => XS.goto X109.here hx rfl (pc0 := 60) (pc' := 43) rfl (hb hby dcg_60) (by decide) (by decide) q) ?_
            show Rch p ev below _ T109 (mkF m 43 #[.val (.ref so), .val (.long lw), .second, .val (.long lw), .second, .val (.int (Int32.ofNat cc)), .val (.int (0 : Int32)), .val (.long (own_L (own_F A.toInt B.toInt e kk))), .second, .val (.int (Int32.ofNat kk)), s10, s11] [])
            exact ic _ _ _ _ X109 rfl N109 S109 (by omega) hk1
      show Rch p ev below _ Tl (mkF m 31 #[.val (.ref so), .val (.long lw), .second, .val (.long lw), .second, .val (.int (Int32.ofNat cc)), .val (.int (0 : Int32)), .val (.long (own_L (own_F A.toInt B.toInt e kk))), .second, .val (.int (Int32.ofNat kk)), s10, s11] [])
      refine Rch.go (fun _ q => XS.lload Xl.here hx rfl (hb hby dcg_31) rfl  q) ?_
      show Rch p ev below _ Tl (mkF m 33 #[.val (.ref so), .val (.long lw), .second, .val (.long lw), .second, .val (.int (Int32.ofNat cc)), .val (.int (0 : Int32)), .val (.long (own_L (own_F A.toInt B.toInt e kk))), .second, .val (.int (Int32.ofNat kk)), s10, s11] [(.long (own_L (own_F A.toInt B.toInt e kk)))])
      refine Rch.go (fun _ q => XS.lloadN Xl.here hx rfl (hb hby dcg_33) rfl  q) ?_
      show Rch p ev below _ Tl (mkF m 34 #[.val (.ref so), .val (.long lw), .second, .val (.long lw), .second, .val (.int (Int32.ofNat cc)), .val (.int (0 : Int32)), .val (.long (own_L (own_F A.toInt B.toInt e kk))), .second, .val (.int (Int32.ofNat kk)), s10, s11] [(.long lw), (.long (own_L (own_F A.toInt B.toInt e kk)))])
      refine Rch.go (fun _ q => XS.lcmp Xl.here hx rfl (hb hby dcg_34) rfl q) ?_
      show Rch p ev below _ Tl (mkF m 35 #[.val (.ref so), .val (.long lw), .second, .val (.long lw), .second, .val (.int (Int32.ofNat cc)), .val (.int (0 : Int32)), .val (.long (own_L (own_F A.toInt B.toInt e kk))), .second, .val (.int (Int32.ofNat kk)), s10, s11] [(.int (lcmpW (own_L (own_F A.toInt B.toInt e kk)) lw))])
      by_cases hc35 : (own_F A.toInt B.toInt e kk) < lw.toInt
      · skip
        refine Rch.go (fun _ q => XS.ifNo Xl.here hx rfl (hb hby dcg_35) rfl ((if0 _ _).trans (tlt ((own_lc_lt (v := (own_F A.toInt B.toInt e kk)) (w := lw) (by omega) (by omega)).mpr hc35)).2.1) q) ?_
        show Rch p ev below _ Tl (mkF m 38 #[.val (.ref so), .val (.long lw), .second, .val (.long lw), .second, .val (.int (Int32.ofNat cc)), .val (.int (0 : Int32)), .val (.long (own_L (own_F A.toInt B.toInt e kk))), .second, .val (.int (Int32.ofNat kk)), s10, s11] [])
        refine Rch.go (fun _ q => XS.iload Xl.here hx rfl (hb hby dcg_38) rfl  q) ?_
        show Rch p ev below _ Tl (mkF m 40 #[.val (.ref so), .val (.long lw), .second, .val (.long lw), .second, .val (.int (Int32.ofNat cc)), .val (.int (0 : Int32)), .val (.long (own_L (own_F A.toInt B.toInt e kk))), .second, .val (.int (Int32.ofNat kk)), s10, s11] [(.int (0 : Int32))])
        refine Rch.go (fun _ q => XS.ifNo Xl.here hx rfl (hb hby dcg_40) rfl ((if0 _ _).trans (teq (by decide)).2) q) ?_
        show Rch p ev below _ Tl (mkF m 43 #[.val (.ref so), .val (.long lw), .second, .val (.long lw), .second, .val (.int (Int32.ofNat cc)), .val (.int (0 : Int32)), .val (.long (own_L (own_F A.toInt B.toInt e kk))), .second, .val (.int (Int32.ofNat kk)), s10, s11] [])
        exact loop3 cc _ _ _ _ Xl el Nl Sl hcc hc35
      · skip
        refine Rch.go (fun _ q => XS.ifYes Xl.here hx rfl (pc0 := 35) (pc' := 120) rfl (hb hby dcg_35) rfl ((if0 _ _).trans (flt ((mt (own_lc_lt (v := (own_F A.toInt B.toInt e kk)) (w := lw) (by omega) (by omega)).mp hc35))).2.1) (by decide) (by decide) q) ?_
        show Rch p ev below _ Tl (mkF m 120 #[.val (.ref so), .val (.long lw), .second, .val (.long lw), .second, .val (.int (Int32.ofNat cc)), .val (.int (0 : Int32)), .val (.long (own_L (own_F A.toInt B.toInt e kk))), .second, .val (.int (Int32.ofNat kk)), s10, s11] [])
        refine Rch.go (fun _ q => XS.iload Xl.here hx rfl (hb hby dcg_120) rfl  q) ?_
        show Rch p ev below _ Tl (mkF m 122 #[.val (.ref so), .val (.long lw), .second, .val (.long lw), .second, .val (.int (Int32.ofNat cc)), .val (.int (0 : Int32)), .val (.long (own_L (own_F A.toInt B.toInt e kk))), .second, .val (.int (Int32.ofNat kk)), s10, s11] [(.int (0 : Int32))])
        have hend : ∃ k c : Nat, k + c + 1 ≤ N ∧ (own_F A.toInt B.toInt e k) < lw.toInt ∧ lw.toInt ≤ (own_F A.toInt B.toInt e (k + 1)) ∧ ((own_F A.toInt B.toInt e (N - c)) - (own_F A.toInt B.toInt e (N - (c + (k + 1))))) ≤ lw.toInt := by
          rcases hinv with q | ⟨c, q1, q2, q3⟩
          · rw [q, F0] at hc35; omega
          · have hk0 : kk ≠ 0 := fun z => by rw [z, F0] at hc35; omega
            have q : kk - 1 + 1 = kk := by omega
            exact ⟨kk - 1, c, q1, q2, by rw [q]; omega, q3⟩
        refine Rch.retZ Xl hx hlk Bd.returns (hb hby dcg_122) (by decide) (by decide) ?_
        unfold Qrmcg
        rw [el]
        exact ⟨0, _, rfl, Nl, Sl, Or.inr ⟨rfl, hend⟩⟩
  have loop1 : ∀ (f : Nat) (Tl : State) (hl : Heap) (Ll : List Loc) (gl : Int64) (cc : Nat), Stand p l ev ({ frames := 5, cells := 0, slots := 0, locals := 72 } : Room) s m #[(.ref so), (.long lw), (.long lw)] below meth c Tl Ll 0 0 → Tl.heap = hl → Fr n0 Ll → own_Sg Z hl n0 so A B e N rc (-1 : Int32) gl → cc + 1 ≤ N → N ≤ cc + 1 + f → Rch p ev below (EndQ (Qrmcg Z so lw A B e N rc ga h0 n0) s ({ frames := 5, cells := 0, slots := 0, locals := 72 } : Room).cells ({ frames := 5, cells := 0, slots := 0, locals := 72 } : Room).slots) Tl (mkF m 3 #[.val (.ref so), .val (.long lw), .second, .val (.long lw), .second, .val (.int (Int32.ofNat cc)), .unset, .unset, .unset, .unset, .unset, .unset] []) := by
    intro f
    induction f with
    | zero =>
      intro Tl hl Ll gl cc Xl el Nl Sl hcc hf
      have d1 := hF (N - (cc + 1)) (by omega)
      have hq : ¬ ((own_F A.toInt B.toInt e N) - (own_F A.toInt B.toInt e (N - (cc + 1)))) < lw.toInt := by
        have q : N - (cc + 1) = 0 := by omega
        rw [q, F0]; omega
      show Rch p ev below _ Tl (mkF m 3 #[.val (.ref so), .val (.long lw), .second, .val (.long lw), .second, .val (.int (Int32.ofNat cc)), .unset, .unset, .unset, .unset, .unset, .unset] [])
      refine Rch.go (fun _ q => XS.aloadN Xl.here hx rfl (hb hby dcg_3) rfl rfl q) ?_
      show Rch p ev below _ Tl (mkF m 4 #[.val (.ref so), .val (.long lw), .second, .val (.long lw), .second, .val (.int (Int32.ofNat cc)), .unset, .unset, .unset, .unset, .unset, .unset] [(.ref so)])
      refine Rch.go (fun _ q => XS.iload Xl.here hx rfl (hb hby dcg_4) rfl  q) ?_
      show Rch p ev below _ Tl (mkF m 6 #[.val (.ref so), .val (.long lw), .second, .val (.long lw), .second, .val (.int (Int32.ofNat cc)), .unset, .unset, .unset, .unset, .unset, .unset] [(.int (Int32.ofNat cc)), (.ref so)])
      refine Rch.go (fun _ q => XS.iconst Xl.here hx rfl (hb hby dcg_6) q) ?_
      show Rch p ev below _ Tl (mkF m 7 #[.val (.ref so), .val (.long lw), .second, .val (.long lw), .second, .val (.int (Int32.ofNat cc)), .unset, .unset, .unset, .unset, .unset, .unset] [(.int (1 : Int32)), (.int (Int32.ofNat cc)), (.ref so)])
      refine Rch.go (fun _ q => XS.iadd Xl.here hx rfl (hb hby dcg_7) rfl q) ?_
      show Rch p ev below _ Tl (mkF m 8 #[.val (.ref so), .val (.long lw), .second, .val (.long lw), .second, .val (.int (Int32.ofNat cc)), .unset, .unset, .unset, .unset, .unset, .unset] [(.int ((Int32.ofNat cc) + (1 : Int32))), (.ref so)])
      rw [show (Int32.ofNat cc + (1 : Int32)) = (Int32.ofNat (cc + 1)) from (own_add1_N (by omega))]
      show Rch p ev below _ Tl (mkF m 8 #[.val (.ref so), .val (.long lw), .second, .val (.long lw), .second, .val (.int (Int32.ofNat cc)), .unset, .unset, .unset, .unset, .unset, .unset] [(.int (Int32.ofNat (cc + 1))), (.ref so)])
      obtain ⟨cq110, q110, q110'⟩ := Exa.cell (own_Sg_exa Sl)
      obtain ⟨_, _, ⟨T110, L110, k110, n110⟩, -, X110, ⟨Lc110, hQ110, l110, y110, z110⟩, st110⟩ := Xl.privateBack hx (y := (⟨"com/example/binflow/binflow/solve/SubsetSums", "smallest", "(I)J"⟩ : MethodName)) hown (mvT hZ (hw _ (List.mem_of_getElem? (i := 107) rfl))) (mvT hZ (hw _ (List.mem_of_getElem? (i := 108) rfl))) (mvT hZ (own_sel (by decide) (hw _ (List.mem_of_getElem? (i := 8) rfl)) (hw _ (List.mem_of_getElem? (i := 109) rfl)) (hw _ (List.mem_of_getElem? (i := 108) rfl)))) (Cond.privateMethod_at (mvP hZ (hw _ (List.mem_of_getElem? (i := 109) rfl)) (args := #[]))) (mvT hZ (hw _ (List.mem_of_getElem? (i := 110) rfl))) (by decide) (backOf (W := 0) (rmsm l Z a0 hw [] so A B e N rc gl (cc + 1) hl n0 (own_Sg_le Sl) Sl (by omega)) hZ (hw _ (List.mem_of_getElem? (i := 110) rfl)) (hw _ (List.mem_of_getElem? (i := 9) rfl)) (by decide) (by decide)) (g := (mkF m 8 #[.val (.ref so), .val (.long lw), .second, .val (.long lw), .second, .val (.int (Int32.ofNat cc)), .unset, .unset, .unset, .unset, .unset, .unset] [(.int (Int32.ofNat (cc + 1))), (.ref so)])) rfl (by rw [hml]; rfl) (Steps.refl _) (a := so) (by rw [el]; exact q110) q110' (argsL := [(.int (Int32.ofNat (cc + 1)))]) (rest := []) (lenOf own_pd3 rfl) rfl (by show 2 * 0 + _ ≤ _; exact Nat.le_of_eq rfl) (hb hby dcg_8) (fun _ _ => ⟨rfl, el, (by decide : 0 + 0 ≤ _), (by decide : 0 + 0 ≤ _)⟩)
      dsimp only [Pt.U, Pt.locs, Pt.cells, Pt.slots] at X110 l110 y110 z110 st110 hQ110
      subst l110 y110 z110
      obtain ⟨rfl, Nc, Sc⟩ := hQ110
      refine Rch.jump st110 ?_
      show Rch p ev below _ T110 (mkF m 11 #[.val (.ref so), .val (.long lw), .second, .val (.long lw), .second, .val (.int (Int32.ofNat cc)), .unset, .unset, .unset, .unset, .unset, .unset] [(.long (own_L ((own_F A.toInt B.toInt e N) - (own_F A.toInt B.toInt e (N - (cc + 1))))))])
      have N110 := Fr.app Nl Nc
      have S110 := Sc
      refine Rch.go (fun _ q => XS.lloadN X110.here hx rfl (hb hby dcg_11) rfl  q) ?_
      show Rch p ev below _ T110 (mkF m 12 #[.val (.ref so), .val (.long lw), .second, .val (.long lw), .second, .val (.int (Int32.ofNat cc)), .unset, .unset, .unset, .unset, .unset, .unset] [(.long lw), (.long (own_L ((own_F A.toInt B.toInt e N) - (own_F A.toInt B.toInt e (N - (cc + 1))))))])
      refine Rch.go (fun _ q => XS.lcmp X110.here hx rfl (hb hby dcg_12) rfl q) ?_
      show Rch p ev below _ T110 (mkF m 13 #[.val (.ref so), .val (.long lw), .second, .val (.long lw), .second, .val (.int (Int32.ofNat cc)), .unset, .unset, .unset, .unset, .unset, .unset] [(.int (lcmpW (own_L ((own_F A.toInt B.toInt e N) - (own_F A.toInt B.toInt e (N - (cc + 1))))) lw))])
      refine Rch.go (fun _ q => XS.ifYes X110.here hx rfl (pc0 := 13) (pc' := 22) rfl (hb hby dcg_13) rfl ((if0 _ _).trans (flt (mt (own_lc_lt (v := ((own_F A.toInt B.toInt e N) - (own_F A.toInt B.toInt e (N - (cc + 1))))) (w := lw) (by omega) (by omega)).mp hq)).2.1) (by decide) (by decide) q) ?_
      show Rch p ev below _ T110 (mkF m 22 #[.val (.ref so), .val (.long lw), .second, .val (.long lw), .second, .val (.int (Int32.ofNat cc)), .unset, .unset, .unset, .unset, .unset, .unset] [])
      refine Rch.go (fun _ q => XS.iconst X110.here hx rfl (hb hby dcg_22) q) ?_
      show Rch p ev below _ T110 (mkF m 23 #[.val (.ref so), .val (.long lw), .second, .val (.long lw), .second, .val (.int (Int32.ofNat cc)), .unset, .unset, .unset, .unset, .unset, .unset] [(.int (0 : Int32))])
      refine Rch.go (fun _ q => XS.istore X110.here hx rfl (hb hby dcg_23) rfl (l' := #[.val (.ref so), .val (.long lw), .second, .val (.long lw), .second, .val (.int (Int32.ofNat cc)), .val (.int (0 : Int32)), .unset, .unset, .unset, .unset, .unset]) rfl q) ?_
      show Rch p ev below _ T110 (mkF m 25 #[.val (.ref so), .val (.long lw), .second, .val (.long lw), .second, .val (.int (Int32.ofNat cc)), .val (.int (0 : Int32)), .unset, .unset, .unset, .unset, .unset] [])
      refine Rch.go (fun _ q => XS.lconst X110.here hx rfl (hb hby dcg_25) q) ?_
      show Rch p ev below _ T110 (mkF m 26 #[.val (.ref so), .val (.long lw), .second, .val (.long lw), .second, .val (.int (Int32.ofNat cc)), .val (.int (0 : Int32)), .unset, .unset, .unset, .unset, .unset] [(.long (0 : Int64))])
      refine Rch.go (fun _ q => XS.lstore X110.here hx rfl (hb hby dcg_26) rfl (l' := #[.val (.ref so), .val (.long lw), .second, .val (.long lw), .second, .val (.int (Int32.ofNat cc)), .val (.int (0 : Int32)), .val (.long (0 : Int64)), .second, .unset, .unset, .unset]) rfl q) ?_
      show Rch p ev below _ T110 (mkF m 28 #[.val (.ref so), .val (.long lw), .second, .val (.long lw), .second, .val (.int (Int32.ofNat cc)), .val (.int (0 : Int32)), .val (.long (0 : Int64)), .second, .unset, .unset, .unset] [])
      refine Rch.go (fun _ q => XS.iconst X110.here hx rfl (hb hby dcg_28) q) ?_
      show Rch p ev below _ T110 (mkF m 29 #[.val (.ref so), .val (.long lw), .second, .val (.long lw), .second, .val (.int (Int32.ofNat cc)), .val (.int (0 : Int32)), .val (.long (0 : Int64)), .second, .unset, .unset, .unset] [(.int (0 : Int32))])
      refine Rch.go (fun _ q => XS.istore X110.here hx rfl (hb hby dcg_29) rfl (l' := #[.val (.ref so), .val (.long lw), .second, .val (.long lw), .second, .val (.int (Int32.ofNat cc)), .val (.int (0 : Int32)), .val (.long (0 : Int64)), .second, .val (.int (0 : Int32)), .unset, .unset]) rfl q) ?_
      show Rch p ev below _ T110 (mkF m 31 #[.val (.ref so), .val (.long lw), .second, .val (.long lw), .second, .val (.int (Int32.ofNat cc)), .val (.int (0 : Int32)), .val (.long (0 : Int64)), .second, .val (.int (0 : Int32)), .unset, .unset] [])
      rw [show (0 : Int64) = (own_L (own_F A.toInt B.toInt e 0)) from (own_lF0 _ _ _)]
      show Rch p ev below _ T110 (mkF m 31 #[.val (.ref so), .val (.long lw), .second, .val (.long lw), .second, .val (.int (Int32.ofNat cc)), .val (.int (0 : Int32)), .val (.long (own_L (own_F A.toInt B.toInt e 0))), .second, .val (.int (0 : Int32)), .unset, .unset] [])
      exact loop2 N _ _ _ _ cc 0 _ _ X110 rfl N110 S110 hcc (by omega) (by omega) (Or.inl ⟨rfl, rfl⟩) (Or.inl rfl)
    | succ f ih =>
      intro Tl hl Ll gl cc Xl el Nl Sl hcc hf
      have d1 := hF (N - (cc + 1)) (by omega)
      show Rch p ev below _ Tl (mkF m 3 #[.val (.ref so), .val (.long lw), .second, .val (.long lw), .second, .val (.int (Int32.ofNat cc)), .unset, .unset, .unset, .unset, .unset, .unset] [])
      refine Rch.go (fun _ q => XS.aloadN Xl.here hx rfl (hb hby dcg_3) rfl rfl q) ?_
      show Rch p ev below _ Tl (mkF m 4 #[.val (.ref so), .val (.long lw), .second, .val (.long lw), .second, .val (.int (Int32.ofNat cc)), .unset, .unset, .unset, .unset, .unset, .unset] [(.ref so)])
      refine Rch.go (fun _ q => XS.iload Xl.here hx rfl (hb hby dcg_4) rfl  q) ?_
      show Rch p ev below _ Tl (mkF m 6 #[.val (.ref so), .val (.long lw), .second, .val (.long lw), .second, .val (.int (Int32.ofNat cc)), .unset, .unset, .unset, .unset, .unset, .unset] [(.int (Int32.ofNat cc)), (.ref so)])
      refine Rch.go (fun _ q => XS.iconst Xl.here hx rfl (hb hby dcg_6) q) ?_
      show Rch p ev below _ Tl (mkF m 7 #[.val (.ref so), .val (.long lw), .second, .val (.long lw), .second, .val (.int (Int32.ofNat cc)), .unset, .unset, .unset, .unset, .unset, .unset] [(.int (1 : Int32)), (.int (Int32.ofNat cc)), (.ref so)])
      refine Rch.go (fun _ q => XS.iadd Xl.here hx rfl (hb hby dcg_7) rfl q) ?_
      show Rch p ev below _ Tl (mkF m 8 #[.val (.ref so), .val (.long lw), .second, .val (.long lw), .second, .val (.int (Int32.ofNat cc)), .unset, .unset, .unset, .unset, .unset, .unset] [(.int ((Int32.ofNat cc) + (1 : Int32))), (.ref so)])
      rw [show (Int32.ofNat cc + (1 : Int32)) = (Int32.ofNat (cc + 1)) from (own_add1_N (by omega))]
      show Rch p ev below _ Tl (mkF m 8 #[.val (.ref so), .val (.long lw), .second, .val (.long lw), .second, .val (.int (Int32.ofNat cc)), .unset, .unset, .unset, .unset, .unset, .unset] [(.int (Int32.ofNat (cc + 1))), (.ref so)])
      obtain ⟨cq111, q111, q111'⟩ := Exa.cell (own_Sg_exa Sl)
      obtain ⟨_, _, ⟨T111, L111, k111, n111⟩, -, X111, ⟨Lc111, hQ111, l111, y111, z111⟩, st111⟩ := Xl.privateBack hx (y := (⟨"com/example/binflow/binflow/solve/SubsetSums", "smallest", "(I)J"⟩ : MethodName)) hown (mvT hZ (hw _ (List.mem_of_getElem? (i := 107) rfl))) (mvT hZ (hw _ (List.mem_of_getElem? (i := 108) rfl))) (mvT hZ (own_sel (by decide) (hw _ (List.mem_of_getElem? (i := 8) rfl)) (hw _ (List.mem_of_getElem? (i := 109) rfl)) (hw _ (List.mem_of_getElem? (i := 108) rfl)))) (Cond.privateMethod_at (mvP hZ (hw _ (List.mem_of_getElem? (i := 109) rfl)) (args := #[]))) (mvT hZ (hw _ (List.mem_of_getElem? (i := 110) rfl))) (by decide) (backOf (W := 0) (rmsm l Z a0 hw [] so A B e N rc gl (cc + 1) hl n0 (own_Sg_le Sl) Sl (by omega)) hZ (hw _ (List.mem_of_getElem? (i := 110) rfl)) (hw _ (List.mem_of_getElem? (i := 9) rfl)) (by decide) (by decide)) (g := (mkF m 8 #[.val (.ref so), .val (.long lw), .second, .val (.long lw), .second, .val (.int (Int32.ofNat cc)), .unset, .unset, .unset, .unset, .unset, .unset] [(.int (Int32.ofNat (cc + 1))), (.ref so)])) rfl (by rw [hml]; rfl) (Steps.refl _) (a := so) (by rw [el]; exact q111) q111' (argsL := [(.int (Int32.ofNat (cc + 1)))]) (rest := []) (lenOf own_pd3 rfl) rfl (by show 2 * 0 + _ ≤ _; exact Nat.le_of_eq rfl) (hb hby dcg_8) (fun _ _ => ⟨rfl, el, (by decide : 0 + 0 ≤ _), (by decide : 0 + 0 ≤ _)⟩)
      dsimp only [Pt.U, Pt.locs, Pt.cells, Pt.slots] at X111 l111 y111 z111 st111 hQ111
      subst l111 y111 z111
      obtain ⟨rfl, Nc, Sc⟩ := hQ111
      refine Rch.jump st111 ?_
      show Rch p ev below _ T111 (mkF m 11 #[.val (.ref so), .val (.long lw), .second, .val (.long lw), .second, .val (.int (Int32.ofNat cc)), .unset, .unset, .unset, .unset, .unset, .unset] [(.long (own_L ((own_F A.toInt B.toInt e N) - (own_F A.toInt B.toInt e (N - (cc + 1))))))])
      have N111 := Fr.app Nl Nc
      have S111 := Sc
      refine Rch.go (fun _ q => XS.lloadN X111.here hx rfl (hb hby dcg_11) rfl  q) ?_
      show Rch p ev below _ T111 (mkF m 12 #[.val (.ref so), .val (.long lw), .second, .val (.long lw), .second, .val (.int (Int32.ofNat cc)), .unset, .unset, .unset, .unset, .unset, .unset] [(.long lw), (.long (own_L ((own_F A.toInt B.toInt e N) - (own_F A.toInt B.toInt e (N - (cc + 1))))))])
      refine Rch.go (fun _ q => XS.lcmp X111.here hx rfl (hb hby dcg_12) rfl q) ?_
      show Rch p ev below _ T111 (mkF m 13 #[.val (.ref so), .val (.long lw), .second, .val (.long lw), .second, .val (.int (Int32.ofNat cc)), .unset, .unset, .unset, .unset, .unset, .unset] [(.int (lcmpW (own_L ((own_F A.toInt B.toInt e N) - (own_F A.toInt B.toInt e (N - (cc + 1))))) lw))])
      by_cases hc13 : ((own_F A.toInt B.toInt e N) - (own_F A.toInt B.toInt e (N - (cc + 1)))) < lw.toInt
      · skip
        refine Rch.go (fun _ q => XS.ifNo X111.here hx rfl (hb hby dcg_13) rfl ((if0 _ _).trans (tlt ((own_lc_lt (v := ((own_F A.toInt B.toInt e N) - (own_F A.toInt B.toInt e (N - (cc + 1))))) (w := lw) (by omega) (by omega)).mpr hc13)).2.1) q) ?_
        show Rch p ev below _ T111 (mkF m 16 #[.val (.ref so), .val (.long lw), .second, .val (.long lw), .second, .val (.int (Int32.ofNat cc)), .unset, .unset, .unset, .unset, .unset, .unset] [])
        have hc2 : cc + 2 ≤ N := by
          refine Nat.lt_of_not_le fun q => ?_
          have q2 : N - (cc + 1) = 0 := by omega
          rw [q2, F0] at hc13; omega
        refine Rch.go (fun _ q => XS.iinc X111.here hx rfl (hb hby dcg_16) rfl (l' := #[.val (.ref so), .val (.long lw), .second, .val (.long lw), .second, .val (.int (Int32.ofNat (cc + 1))), .unset, .unset, .unset, .unset, .unset, .unset]) (by show storeLocals _ 5 (.int (Int32.ofNat cc + (1 : Int32))) = _; rw [own_add1_N (by omega)]; rfl) q) ?_
        show Rch p ev below _ T111 (mkF m 19 #[.val (.ref so), .val (.long lw), .second, .val (.long lw), .second, .val (.int (Int32.ofNat (cc + 1))), .unset, .unset, .unset, .unset, .unset, .unset] [])
        refine Rch.go (fun _ q => XS.goto X111.here hx rfl (pc0 := 19) (pc' := 3) rfl (hb hby dcg_19) (by decide) (by decide) q) ?_
        show Rch p ev below _ T111 (mkF m 3 #[.val (.ref so), .val (.long lw), .second, .val (.long lw), .second, .val (.int (Int32.ofNat (cc + 1))), .unset, .unset, .unset, .unset, .unset, .unset] [])
        exact ih _ _ _ _ (cc + 1) X111 rfl N111 S111 (by omega) (by omega)
      · skip
        refine Rch.go (fun _ q => XS.ifYes X111.here hx rfl (pc0 := 13) (pc' := 22) rfl (hb hby dcg_13) rfl ((if0 _ _).trans (flt ((mt (own_lc_lt (v := ((own_F A.toInt B.toInt e N) - (own_F A.toInt B.toInt e (N - (cc + 1))))) (w := lw) (by omega) (by omega)).mp hc13))).2.1) (by decide) (by decide) q) ?_
        show Rch p ev below _ T111 (mkF m 22 #[.val (.ref so), .val (.long lw), .second, .val (.long lw), .second, .val (.int (Int32.ofNat cc)), .unset, .unset, .unset, .unset, .unset, .unset] [])
        refine Rch.go (fun _ q => XS.iconst X111.here hx rfl (hb hby dcg_22) q) ?_
        show Rch p ev below _ T111 (mkF m 23 #[.val (.ref so), .val (.long lw), .second, .val (.long lw), .second, .val (.int (Int32.ofNat cc)), .unset, .unset, .unset, .unset, .unset, .unset] [(.int (0 : Int32))])
        refine Rch.go (fun _ q => XS.istore X111.here hx rfl (hb hby dcg_23) rfl (l' := #[.val (.ref so), .val (.long lw), .second, .val (.long lw), .second, .val (.int (Int32.ofNat cc)), .val (.int (0 : Int32)), .unset, .unset, .unset, .unset, .unset]) rfl q) ?_
        show Rch p ev below _ T111 (mkF m 25 #[.val (.ref so), .val (.long lw), .second, .val (.long lw), .second, .val (.int (Int32.ofNat cc)), .val (.int (0 : Int32)), .unset, .unset, .unset, .unset, .unset] [])
        refine Rch.go (fun _ q => XS.lconst X111.here hx rfl (hb hby dcg_25) q) ?_
        show Rch p ev below _ T111 (mkF m 26 #[.val (.ref so), .val (.long lw), .second, .val (.long lw), .second, .val (.int (Int32.ofNat cc)), .val (.int (0 : Int32)), .unset, .unset, .unset, .unset, .unset] [(.long (0 : Int64))])
        refine Rch.go (fun _ q => XS.lstore X111.here hx rfl (hb hby dcg_26) rfl (l' := #[.val (.ref so), .val (.long lw), .second, .val (.long lw), .second, .val (.int (Int32.ofNat cc)), .val (.int (0 : Int32)), .val (.long (0 : Int64)), .second, .unset, .unset, .unset]) rfl q) ?_
        show Rch p ev below _ T111 (mkF m 28 #[.val (.ref so), .val (.long lw), .second, .val (.long lw), .second, .val (.int (Int32.ofNat cc)), .val (.int (0 : Int32)), .val (.long (0 : Int64)), .second, .unset, .unset, .unset] [])
        refine Rch.go (fun _ q => XS.iconst X111.here hx rfl (hb hby dcg_28) q) ?_
        show Rch p ev below _ T111 (mkF m 29 #[.val (.ref so), .val (.long lw), .second, .val (.long lw), .second, .val (.int (Int32.ofNat cc)), .val (.int (0 : Int32)), .val (.long (0 : Int64)), .second, .unset, .unset, .unset] [(.int (0 : Int32))])
        refine Rch.go (fun _ q => XS.istore X111.here hx rfl (hb hby dcg_29) rfl (l' := #[.val (.ref so), .val (.long lw), .second, .val (.long lw), .second, .val (.int (Int32.ofNat cc)), .val (.int (0 : Int32)), .val (.long (0 : Int64)), .second, .val (.int (0 : Int32)), .unset, .unset]) rfl q) ?_
        show Rch p ev below _ T111 (mkF m 31 #[.val (.ref so), .val (.long lw), .second, .val (.long lw), .second, .val (.int (Int32.ofNat cc)), .val (.int (0 : Int32)), .val (.long (0 : Int64)), .second, .val (.int (0 : Int32)), .unset, .unset] [])
        rw [show (0 : Int64) = (own_L (own_F A.toInt B.toInt e 0)) from (own_lF0 _ _ _)]
        show Rch p ev below _ T111 (mkF m 31 #[.val (.ref so), .val (.long lw), .second, .val (.long lw), .second, .val (.int (Int32.ofNat cc)), .val (.int (0 : Int32)), .val (.long (own_L (own_F A.toInt B.toInt e 0))), .second, .val (.int (0 : Int32)), .unset, .unset] [])
        exact loop2 N _ _ _ _ cc 0 _ _ X111 rfl N111 S111 hcc (by omega) (by omega) (Or.inl ⟨rfl, rfl⟩) (Or.inl rfl)
  refine Rch.go (fun _ q => XS.iconst X0.here hx rfl (hb hby dcg_0) q) ?_
  show Rch p ev below _ s₁ (mkF m 1 #[.val (.ref so), .val (.long lw), .second, .val (.long lw), .second, .unset, .unset, .unset, .unset, .unset, .unset, .unset] [(.int (0 : Int32))])
  refine Rch.go (fun _ q => XS.istore X0.here hx rfl (hb hby dcg_1) rfl (l' := #[.val (.ref so), .val (.long lw), .second, .val (.long lw), .second, .val (.int (0 : Int32)), .unset, .unset, .unset, .unset, .unset, .unset]) rfl q) ?_
  show Rch p ev below _ s₁ (mkF m 3 #[.val (.ref so), .val (.long lw), .second, .val (.long lw), .second, .val (.int (0 : Int32)), .unset, .unset, .unset, .unset, .unset, .unset] [])
  exact loop1 N _ _ _ ga 0 X0 e0 N0 S (by omega) (by omega)
def own_G (A B : Int32) (e N : Nat) (lw : Int64) (r : Int32) (ga : Int64) : Prop :=
  (lw.toInt < 0 ∧ r = 1 ∧ ga = 0) ∨ (lw.toInt = 0 ∧ r = 0) ∨ (0 < lw.toInt ∧ lw.toInt = (own_F A.toInt B.toInt e N) ∧ r = 0) ∨ (0 < lw.toInt ∧ (own_F A.toInt B.toInt e N) < lw.toInt ∧ r = 1 ∧ ga = 9223372036854775807) ∨ (0 < lw.toInt ∧ lw.toInt < (own_F A.toInt B.toInt e N) ∧ A.toInt < 2 ∧ r = 0) ∨ (0 < lw.toInt ∧ lw.toInt < (own_F A.toInt B.toInt e N) ∧ 2 ≤ A.toInt ∧ own_CG A B e N lw r ga)
theorem own_pn10 : plainFor (⟨"com/example/binflow/binflow/solve/SubsetSums", "gap", "(IJJ)Z"⟩ : MethodName) = true := by first | exact plainFor_of_name (by first | (simp [plainName, overriddenIn]; done) | decide +kernel) | decide +kernel
theorem own_pd6 : parseMethodDescriptor "(IJJ)Z" = some ⟨[.int, .long, .long], some .boolean⟩ := by decide +kernel
theorem dga_0 : decode prog_23_method_9_code 0 = .ok (.aload_n 0, 1) := by decide +kernel
theorem dga_1 : decode prog_23_method_9_code 1 = .ok (.iload_n 1, 1) := by decide +kernel
theorem dga_2 : decode prog_23_method_9_code 2 = .ok (.iconst (-1), 1) := by decide +kernel
theorem dga_3 : decode prog_23_method_9_code 3 = .ok (.if_icmp .ne 7, 3) := by decide +kernel
theorem dga_6 : decode prog_23_method_9_code 6 = .ok (.iconst (-1), 1) := by decide +kernel
theorem dga_7 : decode prog_23_method_9_code 7 = .ok (.goto 9, 3) := by decide +kernel
theorem dga_10 : decode prog_23_method_9_code 10 = .ok (.aload_n 0, 1) := by decide +kernel
theorem dga_11 : decode prog_23_method_9_code 11 = .ok (.getfield 20, 3) := by decide +kernel
theorem dga_14 : decode prog_23_method_9_code 14 = .ok (.iload_n 1, 1) := by decide +kernel
theorem dga_15 : decode prog_23_method_9_code 15 = .ok (.iaload, 1) := by decide +kernel
theorem dga_16 : decode prog_23_method_9_code 16 = .ok (.putfield 68, 3) := by decide +kernel
theorem dga_19 : decode prog_23_method_9_code 19 = .ok (.aload_n 0, 1) := by decide +kernel
theorem dga_20 : decode prog_23_method_9_code 20 = .ok (.iload_n 1, 1) := by decide +kernel
theorem dga_21 : decode prog_23_method_9_code 21 = .ok (.iconst (-1), 1) := by decide +kernel
theorem dga_22 : decode prog_23_method_9_code 22 = .ok (.if_icmp .ne 7, 3) := by decide +kernel
theorem dga_25 : decode prog_23_method_9_code 25 = .ok (.iconst 0, 1) := by decide +kernel
theorem dga_26 : decode prog_23_method_9_code 26 = .ok (.goto 9, 3) := by decide +kernel
theorem dga_29 : decode prog_23_method_9_code 29 = .ok (.aload_n 0, 1) := by decide +kernel
theorem dga_30 : decode prog_23_method_9_code 30 = .ok (.getfield 16, 3) := by decide +kernel
theorem dga_33 : decode prog_23_method_9_code 33 = .ok (.iload_n 1, 1) := by decide +kernel
theorem dga_34 : decode prog_23_method_9_code 34 = .ok (.iaload, 1) := by decide +kernel
theorem dga_35 : decode prog_23_method_9_code 35 = .ok (.putfield 71, 3) := by decide +kernel
theorem dga_38 : decode prog_23_method_9_code 38 = .ok (.aload_n 0, 1) := by decide +kernel
theorem dga_39 : decode prog_23_method_9_code 39 = .ok (.getfield 68, 3) := by decide +kernel
theorem dga_42 : decode prog_23_method_9_code 42 = .ok (.iconst (-1), 1) := by decide +kernel
theorem dga_43 : decode prog_23_method_9_code 43 = .ok (.if_icmp .ne 10, 3) := by decide +kernel
theorem dga_46 : decode prog_23_method_9_code 46 = .ok (.aload_n 0, 1) := by decide +kernel
theorem dga_47 : decode prog_23_method_9_code 47 = .ok (.getfield 27, 3) := by decide +kernel
theorem dga_50 : decode prog_23_method_9_code 50 = .ok (.goto 9, 3) := by decide +kernel
theorem dga_53 : decode prog_23_method_9_code 53 = .ok (.aload_n 0, 1) := by decide +kernel
theorem dga_54 : decode prog_23_method_9_code 54 = .ok (.getfield 27, 3) := by decide +kernel
theorem dga_57 : decode prog_23_method_9_code 57 = .ok (.iconst 1, 1) := by decide +kernel
theorem dga_58 : decode prog_23_method_9_code 58 = .ok (.isub, 1) := by decide +kernel
theorem dga_59 : decode prog_23_method_9_code 59 = .ok (.istore 6, 2) := by decide +kernel
theorem dga_61 : decode prog_23_method_9_code 61 = .ok (.aload_n 0, 1) := by decide +kernel
theorem dga_62 : decode prog_23_method_9_code 62 = .ok (.iload 6, 2) := by decide +kernel
theorem dga_64 : decode prog_23_method_9_code 64 = .ok (.invokevirtual 74, 3) := by decide +kernel
theorem dga_67 : decode prog_23_method_9_code 67 = .ok (.lstore 7, 2) := by decide +kernel
theorem dga_69 : decode prog_23_method_9_code 69 = .ok (.iconst 1, 1) := by decide +kernel
theorem dga_70 : decode prog_23_method_9_code 70 = .ok (.istore 9, 2) := by decide +kernel
theorem dga_72 : decode prog_23_method_9_code 72 = .ok (.lload 4, 2) := by decide +kernel
theorem dga_74 : decode prog_23_method_9_code 74 = .ok (.lconst 0, 1) := by decide +kernel
theorem dga_75 : decode prog_23_method_9_code 75 = .ok (.lcmp, 1) := by decide +kernel
theorem dga_76 : decode prog_23_method_9_code 76 = .ok (.ifCond .ge 18, 3) := by decide +kernel
theorem dga_79 : decode prog_23_method_9_code 79 = .ok (.aload_n 0, 1) := by decide +kernel
theorem dga_80 : decode prog_23_method_9_code 80 = .ok (.ldc2_w 80, 3) := by decide +kernel
theorem dga_83 : decode prog_23_method_9_code 83 = .ok (.putfield 65, 3) := by decide +kernel
theorem dga_86 : decode prog_23_method_9_code 86 = .ok (.aload_n 0, 1) := by decide +kernel
theorem dga_87 : decode prog_23_method_9_code 87 = .ok (.lconst 0, 1) := by decide +kernel
theorem dga_88 : decode prog_23_method_9_code 88 = .ok (.putfield 62, 3) := by decide +kernel
theorem dga_91 : decode prog_23_method_9_code 91 = .ok (.goto 87, 3) := by decide +kernel
theorem dga_94 : decode prog_23_method_9_code 94 = .ok (.lload_n 2, 1) := by decide +kernel
theorem dga_95 : decode prog_23_method_9_code 95 = .ok (.lconst 0, 1) := by decide +kernel
theorem dga_96 : decode prog_23_method_9_code 96 = .ok (.lcmp, 1) := by decide +kernel
theorem dga_97 : decode prog_23_method_9_code 97 = .ok (.ifCond .le 18, 3) := by decide +kernel
theorem dga_100 : decode prog_23_method_9_code 100 = .ok (.lload_n 2, 1) := by decide +kernel
theorem dga_101 : decode prog_23_method_9_code 101 = .ok (.lload 7, 2) := by decide +kernel
theorem dga_103 : decode prog_23_method_9_code 103 = .ok (.lcmp, 1) := by decide +kernel
theorem dga_104 : decode prog_23_method_9_code 104 = .ok (.ifCond .gt 17, 3) := by decide +kernel
theorem dga_107 : decode prog_23_method_9_code 107 = .ok (.lload 7, 2) := by decide +kernel
theorem dga_109 : decode prog_23_method_9_code 109 = .ok (.lload 4, 2) := by decide +kernel
theorem dga_111 : decode prog_23_method_9_code 111 = .ok (.lcmp, 1) := by decide +kernel
theorem dga_112 : decode prog_23_method_9_code 112 = .ok (.ifCond .gt 9, 3) := by decide +kernel
theorem dga_115 : decode prog_23_method_9_code 115 = .ok (.iconst 0, 1) := by decide +kernel
theorem dga_116 : decode prog_23_method_9_code 116 = .ok (.istore 9, 2) := by decide +kernel
theorem dga_118 : decode prog_23_method_9_code 118 = .ok (.goto 60, 3) := by decide +kernel
theorem dga_121 : decode prog_23_method_9_code 121 = .ok (.lload 7, 2) := by decide +kernel
theorem dga_123 : decode prog_23_method_9_code 123 = .ok (.lload_n 2, 1) := by decide +kernel
theorem dga_124 : decode prog_23_method_9_code 124 = .ok (.lcmp, 1) := by decide +kernel
theorem dga_125 : decode prog_23_method_9_code 125 = .ok (.ifCond .ge 19, 3) := by decide +kernel
theorem dga_128 : decode prog_23_method_9_code 128 = .ok (.aload_n 0, 1) := by decide +kernel
theorem dga_129 : decode prog_23_method_9_code 129 = .ok (.lload 7, 2) := by decide +kernel
theorem dga_131 : decode prog_23_method_9_code 131 = .ok (.putfield 65, 3) := by decide +kernel
theorem dga_134 : decode prog_23_method_9_code 134 = .ok (.aload_n 0, 1) := by decide +kernel
theorem dga_135 : decode prog_23_method_9_code 135 = .ok (.ldc2_w 82, 3) := by decide +kernel
theorem dga_138 : decode prog_23_method_9_code 138 = .ok (.putfield 62, 3) := by decide +kernel
theorem dga_141 : decode prog_23_method_9_code 141 = .ok (.goto 37, 3) := by decide +kernel
theorem dga_144 : decode prog_23_method_9_code 144 = .ok (.lload 4, 2) := by decide +kernel
theorem dga_146 : decode prog_23_method_9_code 146 = .ok (.lload_n 2, 1) := by decide +kernel
theorem dga_147 : decode prog_23_method_9_code 147 = .ok (.lsub, 1) := by decide +kernel
theorem dga_148 : decode prog_23_method_9_code 148 = .ok (.ldc2_w 84, 3) := by decide +kernel
theorem dga_151 : decode prog_23_method_9_code 151 = .ok (.ladd, 1) := by decide +kernel
theorem dga_152 : decode prog_23_method_9_code 152 = .ok (.aload_n 0, 1) := by decide +kernel
theorem dga_153 : decode prog_23_method_9_code 153 = .ok (.getfield 16, 3) := by decide +kernel
theorem dga_156 : decode prog_23_method_9_code 156 = .ok (.iconst 0, 1) := by decide +kernel
theorem dga_157 : decode prog_23_method_9_code 157 = .ok (.iaload, 1) := by decide +kernel
theorem dga_158 : decode prog_23_method_9_code 158 = .ok (.i2l, 1) := by decide +kernel
theorem dga_159 : decode prog_23_method_9_code 159 = .ok (.lcmp, 1) := by decide +kernel
theorem dga_160 : decode prog_23_method_9_code 160 = .ok (.ifCond .le 9, 3) := by decide +kernel
theorem dga_163 : decode prog_23_method_9_code 163 = .ok (.iconst 0, 1) := by decide +kernel
theorem dga_164 : decode prog_23_method_9_code 164 = .ok (.istore 9, 2) := by decide +kernel
theorem dga_166 : decode prog_23_method_9_code 166 = .ok (.goto 12, 3) := by decide +kernel
theorem dga_169 : decode prog_23_method_9_code 169 = .ok (.aload_n 0, 1) := by decide +kernel
theorem dga_170 : decode prog_23_method_9_code 170 = .ok (.lload_n 2, 1) := by decide +kernel
theorem dga_171 : decode prog_23_method_9_code 171 = .ok (.lload 4, 2) := by decide +kernel
theorem dga_173 : decode prog_23_method_9_code 173 = .ok (.invokevirtual 86, 3) := by decide +kernel
theorem dga_176 : decode prog_23_method_9_code 176 = .ok (.istore 9, 2) := by decide +kernel
theorem dga_178 : decode prog_23_method_9_code 178 = .ok (.iload 9, 2) := by decide +kernel
theorem dga_180 : decode prog_23_method_9_code 180 = .ok (.ireturn, 1) := by decide +kernel
theorem own_ef15 (m : MethodId) (x0 : Addr) (x1 : Int32) (x2 : Int64) (x3 : Int64) : entryFrame m #[(.ref x0), (.int x1), (.long x2), (.long x3)] 10 = mkF m 0 #[.val (.ref x0), .val (.int x1), .val (.long x2), .second, .val (.long x3), .second, .unset, .unset, .unset, .unset] [] := by first | (simp [entryFrame, mkF, argsToLocals, Value.category, maxLocals]; done) | rfl
def Qrmga (Z : State) (so : Addr) (lw : Int64) (A B : Int32) (e N : Nat) (rc lo : Int32) (ga : Int64) (h0 : Heap) (n0 : Nat) : Option Value → Heap → List Loc → Prop := fun v h L => ∃ (r : Int32) (gaN : Int64), v = some (.int r) ∧ Fr n0 L ∧ own_Sg Z h n0 so A B e N rc (-1 : Int32) gaN ∧ own_G A B e N lw r gaN
set_option maxRecDepth 65536 in
set_option maxHeartbeats 40000000 in
theorem rmga (l : Launch) (Z : State) (a0 : Array Value) (hw : ∀ d ∈ tables_1, d.before a0 Z = true) (ws : List Jvm.Cond) (so : Addr) (lw : Int64) (A B : Int32) (e N : Nat) (rc lo : Int32) (ga : Int64) (h0 : Heap) (n0 : Nat) (Z0 : n0 ≤ h0.size) (S : own_Sg Z h0 n0 so A B e N rc lo ga) :
    MetFree l (⟨"com/example/binflow/binflow/solve/SubsetSums", "gap", "(IJJ)Z"⟩ : MethodName) (head1 (Jvm.Cond.code (⟨"com/example/binflow/binflow/solve/SubsetSums", "gap", "(IJJ)Z"⟩ : MethodName) prog_23_method_9_code 10 (some .boolean) :: ws) ({ frames := 6, cells := 0, slots := 0, locals := 96 } : Room)) (fun a U => a = #[(.ref so), (.int (-1 : Int32)), (.long lw), (.long lw)] ∧ Z.Warmed39 U.vm ∧ U.heap = h0) (fun _ _ _ _ _ => True) (fun _ U o U' => ∃ v L, o = .returned v ∧ (Qrmga Z so lw A B e N rc lo ga h0 n0) v U'.heap L ∧ FrameEnd U o U' L ({ frames := 6, cells := 0, slots := 0, locals := 96 } : Room).cells ({ frames := 6, cells := 0, slots := 0, locals := 96 } : Room).slots) := by
  refine MetFree.of_bodySF own_pn10 hisR ?_
  intro p ev s m args below meth c s₁ Bd hml0 hP hK
  obtain ⟨rfl, hZ, hh⟩ := hP
  have hx := Bd.exec
  have hby := Bd.bytes
  have hlk := Bd.notSynchronized
  have hml : c.maxLocals = 10 := hml0
  have hown : s.vm.findClass "com/example/binflow/binflow/solve/SubsetSums" = some m.cls := findClass_of_methodNamed Bd.named
  have hnm := (name_of_methodNamed Bd.named Bd.method).1
  have X0 : Stand p l ev ({ frames := 6, cells := 0, slots := 0, locals := 96 } : Room) s m #[(.ref so), (.int (-1 : Int32)), (.long lw), (.long lw)] below meth c s₁ [] 0 0 := Stand.of_body Bd
  have e0 : s₁.heap = h0 := by rw [← hh, Bd.state]; rfl
  have N0 := Fr.nil n0
  refine Rch.entry (G := (EndQ (Qrmga Z so lw A B e N rc lo ga h0 n0) s ({ frames := 6, cells := 0, slots := 0, locals := 96 } : Room).cells ({ frames := 6, cells := 0, slots := 0, locals := 96 } : Room).slots)) (own_ef15 m so (-1 : Int32) lw lw) ?_
  have hbool : ∀ x : Int32, nar .boolean x = x &&& 1 := fun _ => rfl
  show Rch p ev below _ s₁ (mkF m 0 #[.val (.ref so), .val (.int (-1 : Int32)), .val (.long lw), .second, .val (.long lw), .second, .unset, .unset, .unset, .unset] [])
  obtain ⟨fc, bc, S1⟩ := id S
  obtain ⟨rs, rt, fs, bs, kr, kt, kf, kb, rl, tl, fl, bl, zl, fr, br, los, sm, gb, WW, Is, If, Ib⟩ := S1
  obtain ⟨hA, hB, he1, heN, hN8, hrc, r0, r1, t0, t1, zN, z16, hsm, hrl2, htl2⟩ := id Is
  have hfcN := If.1
  have hbcN := Ib.1
  have hF := own_Fb A B e hA hB
  have fN := hF N hN8
  refine Rch.go (fun _ q => XS.aloadN X0.here hx rfl (hb hby dga_0) rfl rfl q) ?_
  show Rch p ev below _ s₁ (mkF m 1 #[.val (.ref so), .val (.int (-1 : Int32)), .val (.long lw), .second, .val (.long lw), .second, .unset, .unset, .unset, .unset] [(.ref so)])
  refine Rch.go (fun _ q => XS.iloadN X0.here hx rfl (hb hby dga_1) rfl  q) ?_
  show Rch p ev below _ s₁ (mkF m 2 #[.val (.ref so), .val (.int (-1 : Int32)), .val (.long lw), .second, .val (.long lw), .second, .unset, .unset, .unset, .unset] [(.int (-1 : Int32)), (.ref so)])
  refine Rch.go (fun _ q => XS.iconst X0.here hx rfl (hb hby dga_2) q) ?_
  show Rch p ev below _ s₁ (mkF m 3 #[.val (.ref so), .val (.int (-1 : Int32)), .val (.long lw), .second, .val (.long lw), .second, .unset, .unset, .unset, .unset] [(.int (-1 : Int32)), (.int (-1 : Int32)), (.ref so)])
  refine Rch.go (fun _ q => XS.icmpNo X0.here hx rfl (hb hby dga_3) rfl (teq (by decide)).2 q) ?_
  show Rch p ev below _ s₁ (mkF m 6 #[.val (.ref so), .val (.int (-1 : Int32)), .val (.long lw), .second, .val (.long lw), .second, .unset, .unset, .unset, .unset] [(.ref so)])
  refine Rch.go (fun _ q => XS.iconst X0.here hx rfl (hb hby dga_6) q) ?_
  show Rch p ev below _ s₁ (mkF m 7 #[.val (.ref so), .val (.int (-1 : Int32)), .val (.long lw), .second, .val (.long lw), .second, .unset, .unset, .unset, .unset] [(.int (-1 : Int32)), (.ref so)])
  refine Rch.go (fun _ q => XS.goto X0.here hx rfl (pc0 := 7) (pc' := 16) rfl (hb hby dga_7) (by decide) (by decide) q) ?_
  show Rch p ev below _ s₁ (mkF m 16 #[.val (.ref so), .val (.int (-1 : Int32)), .val (.long lw), .second, .val (.long lw), .second, .unset, .unset, .unset, .unset] [(.int (-1 : Int32)), (.ref so)])
  obtain ⟨T101, h101, X101, e101, W101, st101⟩ := putF X0 hx hZ hown (host := "") (Or.inl (hw _ (List.mem_of_getElem? (i := 62) rfl))) Via.refl e0 (WW.2.1 12 _ _ _ rfl rfl) WW.1 (Or.inl (hw _ (List.mem_of_getElem? (i := 63) rfl))) (hw _ (List.mem_of_getElem? (i := 8) rfl)) (ty := .int) (by decide) rfl rfl (g := (mkF m 16 #[.val (.ref so), .val (.int (-1 : Int32)), .val (.long lw), .second, .val (.long lw), .second, .unset, .unset, .unset, .unset] [(.int (-1 : Int32)), (.ref so)])) rfl rfl (hb hby dga_16)
  have N101 := Fr.snoc X101 N0 WW.2.2.2.2.2.2.1.1
  have Z101 : n0 ≤ h101.size := by rw [W101.size]; exact Z0
  refine Rch.go st101 ?_
  show Rch p ev below _ T101 (mkF m 19 #[.val (.ref so), .val (.int (-1 : Int32)), .val (.long lw), .second, .val (.long lw), .second, .unset, .unset, .unset, .unset] [])
  have WW101 : own_W Z h101 n0 so rs rt fs bs kr kt kf kb rl tl fl bl zl [(.ref rs), (.ref rt), (.int rc), (.int (Int32.ofNat N)), (.long sm), (.ref fs), (.int (Int32.ofNat fc)), (.int fr), (.ref bs), (.int (Int32.ofNat bc)), (.int br), (.int los), (.int (-1 : Int32)), (.long gb), (.long ga)] := own_W_put hw WW 12 rfl W101
  refine Rch.go (fun _ q => XS.aloadN X101.here hx rfl (hb hby dga_19) rfl rfl q) ?_
  show Rch p ev below _ T101 (mkF m 20 #[.val (.ref so), .val (.int (-1 : Int32)), .val (.long lw), .second, .val (.long lw), .second, .unset, .unset, .unset, .unset] [(.ref so)])
  refine Rch.go (fun _ q => XS.iloadN X101.here hx rfl (hb hby dga_20) rfl  q) ?_
  show Rch p ev below _ T101 (mkF m 21 #[.val (.ref so), .val (.int (-1 : Int32)), .val (.long lw), .second, .val (.long lw), .second, .unset, .unset, .unset, .unset] [(.int (-1 : Int32)), (.ref so)])
  refine Rch.go (fun _ q => XS.iconst X101.here hx rfl (hb hby dga_21) q) ?_
  show Rch p ev below _ T101 (mkF m 22 #[.val (.ref so), .val (.int (-1 : Int32)), .val (.long lw), .second, .val (.long lw), .second, .unset, .unset, .unset, .unset] [(.int (-1 : Int32)), (.int (-1 : Int32)), (.ref so)])
  refine Rch.go (fun _ q => XS.icmpNo X101.here hx rfl (hb hby dga_22) rfl (teq (by decide)).2 q) ?_
  show Rch p ev below _ T101 (mkF m 25 #[.val (.ref so), .val (.int (-1 : Int32)), .val (.long lw), .second, .val (.long lw), .second, .unset, .unset, .unset, .unset] [(.ref so)])
  refine Rch.go (fun _ q => XS.iconst X101.here hx rfl (hb hby dga_25) q) ?_
  show Rch p ev below _ T101 (mkF m 26 #[.val (.ref so), .val (.int (-1 : Int32)), .val (.long lw), .second, .val (.long lw), .second, .unset, .unset, .unset, .unset] [(.int (0 : Int32)), (.ref so)])
  refine Rch.go (fun _ q => XS.goto X101.here hx rfl (pc0 := 26) (pc' := 35) rfl (hb hby dga_26) (by decide) (by decide) q) ?_
  show Rch p ev below _ T101 (mkF m 35 #[.val (.ref so), .val (.int (-1 : Int32)), .val (.long lw), .second, .val (.long lw), .second, .unset, .unset, .unset, .unset] [(.int (0 : Int32)), (.ref so)])
  obtain ⟨T102, h102, X102, e102, W102, st102⟩ := putF X101 hx hZ hown (host := "") (Or.inl (hw _ (List.mem_of_getElem? (i := 64) rfl))) Via.refl e101 (WW101.2.1 11 _ _ _ rfl rfl) WW101.1 (Or.inl (hw _ (List.mem_of_getElem? (i := 65) rfl))) (hw _ (List.mem_of_getElem? (i := 8) rfl)) (ty := .int) (by decide) rfl rfl (g := (mkF m 35 #[.val (.ref so), .val (.int (-1 : Int32)), .val (.long lw), .second, .val (.long lw), .second, .unset, .unset, .unset, .unset] [(.int (0 : Int32)), (.ref so)])) rfl rfl (hb hby dga_35)
  have N102 := Fr.snoc X102 N101 WW101.2.2.2.2.2.2.1.1
  have Z102 : n0 ≤ h102.size := by rw [W102.size]; exact WW101.2.2.2.2.2.2.1.2.2.2.2.2
  refine Rch.go st102 ?_
  show Rch p ev below _ T102 (mkF m 38 #[.val (.ref so), .val (.int (-1 : Int32)), .val (.long lw), .second, .val (.long lw), .second, .unset, .unset, .unset, .unset] [])
  have WW102 : own_W Z h102 n0 so rs rt fs bs kr kt kf kb rl tl fl bl zl [(.ref rs), (.ref rt), (.int rc), (.int (Int32.ofNat N)), (.long sm), (.ref fs), (.int (Int32.ofNat fc)), (.int fr), (.ref bs), (.int (Int32.ofNat bc)), (.int br), (.int (0 : Int32)), (.int (-1 : Int32)), (.long gb), (.long ga)] := own_W_put hw WW101 11 rfl W102
  have S103 : own_Sg Z h102 n0 so A B e N rc (-1 : Int32) ga := ⟨fc, bc, rs, rt, fs, bs, kr, kt, kf, kb, rl, tl, fl, bl, zl, fr, br, _, sm, _, WW102, Is, If, Ib⟩
  refine Rch.go (fun _ q => XS.aloadN X102.here hx rfl (hb hby dga_38) rfl rfl q) ?_
  show Rch p ev below _ T102 (mkF m 39 #[.val (.ref so), .val (.int (-1 : Int32)), .val (.long lw), .second, .val (.long lw), .second, .unset, .unset, .unset, .unset] [(.ref so)])
  obtain ⟨fc, bc, S1⟩ := id S103
  obtain ⟨rs, rt, fs, bs, kr, kt, kf, kb, rl, tl, fl, bl, zl, fr, br, los, sm, gb, WW, Is, If, Ib⟩ := S1
  obtain ⟨hA, hB, he1, heN, hN8, hrc, r0, r1, t0, t1, zN, z16, hsm, hrl2, htl2⟩ := id Is
  have hfcN := If.1
  have hbcN := Ib.1
  obtain ⟨T104, X104, e104, st104⟩ := getF X102 hx hZ hown (host := "") (Or.inl (hw _ (List.mem_of_getElem? (i := 62) rfl))) Via.refl e102 (WW.2.1 12 _ _ _ rfl rfl) (g := (mkF m 39 #[.val (.ref so), .val (.int (-1 : Int32)), .val (.long lw), .second, .val (.long lw), .second, .unset, .unset, .unset, .unset] [(.ref so)])) rfl rfl (hb hby dga_39)
  refine Rch.go st104 ?_
  show Rch p ev below _ T104 (mkF m 42 #[.val (.ref so), .val (.int (-1 : Int32)), .val (.long lw), .second, .val (.long lw), .second, .unset, .unset, .unset, .unset] [(.int (-1 : Int32))])
  refine Rch.go (fun _ q => XS.iconst X104.here hx rfl (hb hby dga_42) q) ?_
  show Rch p ev below _ T104 (mkF m 43 #[.val (.ref so), .val (.int (-1 : Int32)), .val (.long lw), .second, .val (.long lw), .second, .unset, .unset, .unset, .unset] [(.int (-1 : Int32)), (.int (-1 : Int32))])
  refine Rch.go (fun _ q => XS.icmpNo X104.here hx rfl (hb hby dga_43) rfl (teq (by decide)).2 q) ?_
  show Rch p ev below _ T104 (mkF m 46 #[.val (.ref so), .val (.int (-1 : Int32)), .val (.long lw), .second, .val (.long lw), .second, .unset, .unset, .unset, .unset] [])
  refine Rch.go (fun _ q => XS.aloadN X104.here hx rfl (hb hby dga_46) rfl rfl q) ?_
  show Rch p ev below _ T104 (mkF m 47 #[.val (.ref so), .val (.int (-1 : Int32)), .val (.long lw), .second, .val (.long lw), .second, .unset, .unset, .unset, .unset] [(.ref so)])
  obtain ⟨T105, X105, e105, st105⟩ := getF X104 hx hZ hown (host := "") (Or.inl (hw _ (List.mem_of_getElem? (i := 33) rfl))) Via.refl e104 (WW.2.1 3 _ _ _ rfl rfl) (g := (mkF m 47 #[.val (.ref so), .val (.int (-1 : Int32)), .val (.long lw), .second, .val (.long lw), .second, .unset, .unset, .unset, .unset] [(.ref so)])) rfl rfl (hb hby dga_47)
  refine Rch.go st105 ?_
  show Rch p ev below _ T105 (mkF m 50 #[.val (.ref so), .val (.int (-1 : Int32)), .val (.long lw), .second, .val (.long lw), .second, .unset, .unset, .unset, .unset] [(.int (Int32.ofNat N))])
  refine Rch.go (fun _ q => XS.goto X105.here hx rfl (pc0 := 50) (pc' := 59) rfl (hb hby dga_50) (by decide) (by decide) q) ?_
  show Rch p ev below _ T105 (mkF m 59 #[.val (.ref so), .val (.int (-1 : Int32)), .val (.long lw), .second, .val (.long lw), .second, .unset, .unset, .unset, .unset] [(.int (Int32.ofNat N))])
  refine Rch.go (fun _ q => XS.istore X105.here hx rfl (hb hby dga_59) rfl (l' := #[.val (.ref so), .val (.int (-1 : Int32)), .val (.long lw), .second, .val (.long lw), .second, .val (.int (Int32.ofNat N)), .unset, .unset, .unset]) rfl q) ?_
  show Rch p ev below _ T105 (mkF m 61 #[.val (.ref so), .val (.int (-1 : Int32)), .val (.long lw), .second, .val (.long lw), .second, .val (.int (Int32.ofNat N)), .unset, .unset, .unset] [])
  refine Rch.go (fun _ q => XS.aloadN X105.here hx rfl (hb hby dga_61) rfl rfl q) ?_
  show Rch p ev below _ T105 (mkF m 62 #[.val (.ref so), .val (.int (-1 : Int32)), .val (.long lw), .second, .val (.long lw), .second, .val (.int (Int32.ofNat N)), .unset, .unset, .unset] [(.ref so)])
  refine Rch.go (fun _ q => XS.iload X105.here hx rfl (hb hby dga_62) rfl  q) ?_
  show Rch p ev below _ T105 (mkF m 64 #[.val (.ref so), .val (.int (-1 : Int32)), .val (.long lw), .second, .val (.long lw), .second, .val (.int (Int32.ofNat N)), .unset, .unset, .unset] [(.int (Int32.ofNat N)), (.ref so)])
  obtain ⟨cq106, q106, q106'⟩ := Exa.cell (own_Sg_exa S103)
  obtain ⟨_, _, ⟨T106, L106, k106, n106⟩, -, X106, ⟨Lc106, hQ106, l106, y106, z106⟩, st106⟩ := X105.privateBack hx (y := (⟨"com/example/binflow/binflow/solve/SubsetSums", "largest", "(I)J"⟩ : MethodName)) hown (mvT hZ (hw _ (List.mem_of_getElem? (i := 66) rfl))) (mvT hZ (hw _ (List.mem_of_getElem? (i := 67) rfl))) (mvT hZ (own_sel (by decide) (hw _ (List.mem_of_getElem? (i := 8) rfl)) (hw _ (List.mem_of_getElem? (i := 68) rfl)) (hw _ (List.mem_of_getElem? (i := 67) rfl)))) (Cond.privateMethod_at (mvP hZ (hw _ (List.mem_of_getElem? (i := 68) rfl)) (args := #[]))) (mvT hZ (hw _ (List.mem_of_getElem? (i := 69) rfl))) (by decide) (backOf (W := 0) (rmlg l Z a0 hw [] so A B e N rc ga N h102 n0 (own_Sg_le S103) S103 (Nat.le_refl _)) hZ (hw _ (List.mem_of_getElem? (i := 69) rfl)) (hw _ (List.mem_of_getElem? (i := 9) rfl)) (by decide) (by decide)) (g := (mkF m 64 #[.val (.ref so), .val (.int (-1 : Int32)), .val (.long lw), .second, .val (.long lw), .second, .val (.int (Int32.ofNat N)), .unset, .unset, .unset] [(.int (Int32.ofNat N)), (.ref so)])) rfl (by rw [hml]; rfl) (Steps.refl _) (a := so) (by rw [e105]; exact q106) q106' (argsL := [(.int (Int32.ofNat N))]) (rest := []) (lenOf own_pd3 rfl) rfl (by show 2 * 0 + _ ≤ _; exact Nat.le_of_eq rfl) (hb hby dga_64) (fun _ _ => ⟨rfl, e105, (by decide : 0 + 0 ≤ _), (by decide : 0 + 0 ≤ _)⟩)
  dsimp only [Pt.U, Pt.locs, Pt.cells, Pt.slots] at X106 l106 y106 z106 st106 hQ106
  subst l106 y106 z106
  obtain ⟨rfl, Nc, Sc⟩ := hQ106
  refine Rch.jump st106 ?_
  show Rch p ev below _ T106 (mkF m 67 #[.val (.ref so), .val (.int (-1 : Int32)), .val (.long lw), .second, .val (.long lw), .second, .val (.int (Int32.ofNat N)), .unset, .unset, .unset] [(.long (own_L (own_F A.toInt B.toInt e N)))])
  have N106 := Fr.app N102 Nc
  have S106 := Sc
  refine Rch.go (fun _ q => XS.lstore X106.here hx rfl (hb hby dga_67) rfl (l' := #[.val (.ref so), .val (.int (-1 : Int32)), .val (.long lw), .second, .val (.long lw), .second, .val (.int (Int32.ofNat N)), .val (.long (own_L (own_F A.toInt B.toInt e N))), .second, .unset]) rfl q) ?_
  show Rch p ev below _ T106 (mkF m 69 #[.val (.ref so), .val (.int (-1 : Int32)), .val (.long lw), .second, .val (.long lw), .second, .val (.int (Int32.ofNat N)), .val (.long (own_L (own_F A.toInt B.toInt e N))), .second, .unset] [])
  refine Rch.go (fun _ q => XS.iconst X106.here hx rfl (hb hby dga_69) q) ?_
  show Rch p ev below _ T106 (mkF m 70 #[.val (.ref so), .val (.int (-1 : Int32)), .val (.long lw), .second, .val (.long lw), .second, .val (.int (Int32.ofNat N)), .val (.long (own_L (own_F A.toInt B.toInt e N))), .second, .unset] [(.int (1 : Int32))])
  refine Rch.go (fun _ q => XS.istore X106.here hx rfl (hb hby dga_70) rfl (l' := #[.val (.ref so), .val (.int (-1 : Int32)), .val (.long lw), .second, .val (.long lw), .second, .val (.int (Int32.ofNat N)), .val (.long (own_L (own_F A.toInt B.toInt e N))), .second, .val (.int (1 : Int32))]) rfl q) ?_
  show Rch p ev below _ T106 (mkF m 72 #[.val (.ref so), .val (.int (-1 : Int32)), .val (.long lw), .second, .val (.long lw), .second, .val (.int (Int32.ofNat N)), .val (.long (own_L (own_F A.toInt B.toInt e N))), .second, .val (.int (1 : Int32))] [])
  refine Rch.go (fun _ q => XS.lload X106.here hx rfl (hb hby dga_72) rfl  q) ?_
  show Rch p ev below _ T106 (mkF m 74 #[.val (.ref so), .val (.int (-1 : Int32)), .val (.long lw), .second, .val (.long lw), .second, .val (.int (Int32.ofNat N)), .val (.long (own_L (own_F A.toInt B.toInt e N))), .second, .val (.int (1 : Int32))] [(.long lw)])
  refine Rch.go (fun _ q => XS.lconst X106.here hx rfl (hb hby dga_74) q) ?_
  show Rch p ev below _ T106 (mkF m 75 #[.val (.ref so), .val (.int (-1 : Int32)), .val (.long lw), .second, .val (.long lw), .second, .val (.int (Int32.ofNat N)), .val (.long (own_L (own_F A.toInt B.toInt e N))), .second, .val (.int (1 : Int32))] [(.long (0 : Int64)), (.long lw)])
  rw [own_l0]
  show Rch p ev below _ T106 (mkF m 75 #[.val (.ref so), .val (.int (-1 : Int32)), .val (.long lw), .second, .val (.long lw), .second, .val (.int (Int32.ofNat N)), .val (.long (own_L (own_F A.toInt B.toInt e N))), .second, .val (.int (1 : Int32))] [(.long (own_L 0)), (.long lw)])
  refine Rch.go (fun _ q => XS.lcmp X106.here hx rfl (hb hby dga_75) rfl q) ?_
  show Rch p ev below _ T106 (mkF m 76 #[.val (.ref so), .val (.int (-1 : Int32)), .val (.long lw), .second, .val (.long lw), .second, .val (.int (Int32.ofNat N)), .val (.long (own_L (own_F A.toInt B.toInt e N))), .second, .val (.int (1 : Int32))] [(.int (lcmpW lw (own_L 0)))])
  by_cases hc76 : lw.toInt < 0
  · skip
    refine Rch.go (fun _ q => XS.ifNo X106.here hx rfl (hb hby dga_76) rfl ((if0 _ _).trans (tlt ((own_lc_lt' (v := 0) (w := lw) (by omega) (by omega)).mpr hc76)).2.1) q) ?_
    show Rch p ev below _ T106 (mkF m 79 #[.val (.ref so), .val (.int (-1 : Int32)), .val (.long lw), .second, .val (.long lw), .second, .val (.int (Int32.ofNat N)), .val (.long (own_L (own_F A.toInt B.toInt e N))), .second, .val (.int (1 : Int32))] [])
    refine Rch.go (fun _ q => XS.aloadN X106.here hx rfl (hb hby dga_79) rfl rfl q) ?_
    show Rch p ev below _ T106 (mkF m 80 #[.val (.ref so), .val (.int (-1 : Int32)), .val (.long lw), .second, .val (.long lw), .second, .val (.int (Int32.ofNat N)), .val (.long (own_L (own_F A.toInt B.toInt e N))), .second, .val (.int (1 : Int32))] [(.ref so)])
    refine Rch.go (fun _ q => X106.ldc2J hx (own := "com/example/binflow/binflow/solve/SubsetSums") hown (mvT hZ (hw _ (List.mem_of_getElem? (i := 97) rfl))) rfl (hb hby dga_80) q) ?_
    show Rch p ev below _ T106 (mkF m 83 #[.val (.ref so), .val (.int (-1 : Int32)), .val (.long lw), .second, .val (.long lw), .second, .val (.int (Int32.ofNat N)), .val (.long (own_L (own_F A.toInt B.toInt e N))), .second, .val (.int (1 : Int32))] [(.long (-9223372036854775808 : Int64)), (.ref so)])
    obtain ⟨fc, bc, S1⟩ := id S106
    obtain ⟨rs, rt, fs, bs, kr, kt, kf, kb, rl, tl, fl, bl, zl, fr, br, los, sm, gb, WW, Is, If, Ib⟩ := S1
    obtain ⟨hA, hB, he1, heN, hN8, hrc, r0, r1, t0, t1, zN, z16, hsm, hrl2, htl2⟩ := id Is
    have hfcN := If.1
    have hbcN := Ib.1
    obtain ⟨T107, h107, X107, e107, W107, st107⟩ := putF X106 hx hZ hown (host := "") (Or.inl (hw _ (List.mem_of_getElem? (i := 98) rfl))) Via.refl rfl (WW.2.1 13 _ _ _ rfl rfl) WW.1 (Or.inl (hw _ (List.mem_of_getElem? (i := 99) rfl))) (hw _ (List.mem_of_getElem? (i := 8) rfl)) (ty := .long) (by decide) rfl rfl (g := (mkF m 83 #[.val (.ref so), .val (.int (-1 : Int32)), .val (.long lw), .second, .val (.long lw), .second, .val (.int (Int32.ofNat N)), .val (.long (own_L (own_F A.toInt B.toInt e N))), .second, .val (.int (1 : Int32))] [(.long (-9223372036854775808 : Int64)), (.ref so)])) rfl rfl (hb hby dga_83)
    have N107 := Fr.snoc X107 N106 WW.2.2.2.2.2.2.1.1
    have Z107 : n0 ≤ h107.size := by rw [W107.size]; exact WW.2.2.2.2.2.2.1.2.2.2.2.2
    refine Rch.go st107 ?_
    show Rch p ev below _ T107 (mkF m 86 #[.val (.ref so), .val (.int (-1 : Int32)), .val (.long lw), .second, .val (.long lw), .second, .val (.int (Int32.ofNat N)), .val (.long (own_L (own_F A.toInt B.toInt e N))), .second, .val (.int (1 : Int32))] [])
    have WW107 : own_W Z h107 n0 so rs rt fs bs kr kt kf kb rl tl fl bl zl [(.ref rs), (.ref rt), (.int rc), (.int (Int32.ofNat N)), (.long sm), (.ref fs), (.int (Int32.ofNat fc)), (.int fr), (.ref bs), (.int (Int32.ofNat bc)), (.int br), (.int los), (.int (-1 : Int32)), (.long (-9223372036854775808 : Int64)), (.long ga)] := own_W_put hw WW 13 rfl W107
    refine Rch.go (fun _ q => XS.aloadN X107.here hx rfl (hb hby dga_86) rfl rfl q) ?_
    show Rch p ev below _ T107 (mkF m 87 #[.val (.ref so), .val (.int (-1 : Int32)), .val (.long lw), .second, .val (.long lw), .second, .val (.int (Int32.ofNat N)), .val (.long (own_L (own_F A.toInt B.toInt e N))), .second, .val (.int (1 : Int32))] [(.ref so)])
    refine Rch.go (fun _ q => XS.lconst X107.here hx rfl (hb hby dga_87) q) ?_
    show Rch p ev below _ T107 (mkF m 88 #[.val (.ref so), .val (.int (-1 : Int32)), .val (.long lw), .second, .val (.long lw), .second, .val (.int (Int32.ofNat N)), .val (.long (own_L (own_F A.toInt B.toInt e N))), .second, .val (.int (1 : Int32))] [(.long (0 : Int64)), (.ref so)])
    obtain ⟨T108, h108, X108, e108, W108, st108⟩ := putF X107 hx hZ hown (host := "") (Or.inl (hw _ (List.mem_of_getElem? (i := 100) rfl))) Via.refl e107 (WW107.2.1 14 _ _ _ rfl rfl) WW107.1 (Or.inl (hw _ (List.mem_of_getElem? (i := 101) rfl))) (hw _ (List.mem_of_getElem? (i := 8) rfl)) (ty := .long) (by decide) rfl rfl (g := (mkF m 88 #[.val (.ref so), .val (.int (-1 : Int32)), .val (.long lw), .second, .val (.long lw), .second, .val (.int (Int32.ofNat N)), .val (.long (own_L (own_F A.toInt B.toInt e N))), .second, .val (.int (1 : Int32))] [(.long (0 : Int64)), (.ref so)])) rfl rfl (hb hby dga_88)
    have N108 := Fr.snoc X108 N107 WW107.2.2.2.2.2.2.1.1
    have Z108 : n0 ≤ h108.size := by rw [W108.size]; exact WW107.2.2.2.2.2.2.1.2.2.2.2.2
    refine Rch.go st108 ?_
    show Rch p ev below _ T108 (mkF m 91 #[.val (.ref so), .val (.int (-1 : Int32)), .val (.long lw), .second, .val (.long lw), .second, .val (.int (Int32.ofNat N)), .val (.long (own_L (own_F A.toInt B.toInt e N))), .second, .val (.int (1 : Int32))] [])
    have WW108 : own_W Z h108 n0 so rs rt fs bs kr kt kf kb rl tl fl bl zl [(.ref rs), (.ref rt), (.int rc), (.int (Int32.ofNat N)), (.long sm), (.ref fs), (.int (Int32.ofNat fc)), (.int fr), (.ref bs), (.int (Int32.ofNat bc)), (.int br), (.int los), (.int (-1 : Int32)), (.long (-9223372036854775808 : Int64)), (.long (0 : Int64))] := own_W_put hw WW107 14 rfl W108
    have S109 : own_Sg Z h108 n0 so A B e N rc (-1 : Int32) (0 : Int64) := ⟨fc, bc, rs, rt, fs, bs, kr, kt, kf, kb, rl, tl, fl, bl, zl, fr, br, _, sm, _, WW108, Is, If, Ib⟩
    refine Rch.go (fun _ q => XS.goto X108.here hx rfl (pc0 := 91) (pc' := 178) rfl (hb hby dga_91) (by decide) (by decide) q) ?_
    show Rch p ev below _ T108 (mkF m 178 #[.val (.ref so), .val (.int (-1 : Int32)), .val (.long lw), .second, .val (.long lw), .second, .val (.int (Int32.ofNat N)), .val (.long (own_L (own_F A.toInt B.toInt e N))), .second, .val (.int (1 : Int32))] [])
    refine Rch.go (fun _ q => XS.iload X108.here hx rfl (hb hby dga_178) rfl  q) ?_
    show Rch p ev below _ T108 (mkF m 180 #[.val (.ref so), .val (.int (-1 : Int32)), .val (.long lw), .second, .val (.long lw), .second, .val (.int (Int32.ofNat N)), .val (.long (own_L (own_F A.toInt B.toInt e N))), .second, .val (.int (1 : Int32))] [(.int (1 : Int32))])
    refine Rch.retZ X108 hx hlk Bd.returns (hb hby dga_180) (by decide) (by decide) ?_
    unfold Qrmga
    exact ⟨(1 : Int32), _, rfl, N108, (by rw [e108]; exact S109), by unfold own_G; left; exact ⟨hc76, rfl, rfl⟩⟩
  · skip
    refine Rch.go (fun _ q => XS.ifYes X106.here hx rfl (pc0 := 76) (pc' := 94) rfl (hb hby dga_76) rfl ((if0 _ _).trans (flt ((mt (own_lc_lt' (v := 0) (w := lw) (by omega) (by omega)).mp hc76))).2.1) (by decide) (by decide) q) ?_
    show Rch p ev below _ T106 (mkF m 94 #[.val (.ref so), .val (.int (-1 : Int32)), .val (.long lw), .second, .val (.long lw), .second, .val (.int (Int32.ofNat N)), .val (.long (own_L (own_F A.toInt B.toInt e N))), .second, .val (.int (1 : Int32))] [])
    refine Rch.go (fun _ q => XS.lloadN X106.here hx rfl (hb hby dga_94) rfl  q) ?_
    show Rch p ev below _ T106 (mkF m 95 #[.val (.ref so), .val (.int (-1 : Int32)), .val (.long lw), .second, .val (.long lw), .second, .val (.int (Int32.ofNat N)), .val (.long (own_L (own_F A.toInt B.toInt e N))), .second, .val (.int (1 : Int32))] [(.long lw)])
    refine Rch.go (fun _ q => XS.lconst X106.here hx rfl (hb hby dga_95) q) ?_
    show Rch p ev below _ T106 (mkF m 96 #[.val (.ref so), .val (.int (-1 : Int32)), .val (.long lw), .second, .val (.long lw), .second, .val (.int (Int32.ofNat N)), .val (.long (own_L (own_F A.toInt B.toInt e N))), .second, .val (.int (1 : Int32))] [(.long (0 : Int64)), (.long lw)])
    rw [own_l0]
    show Rch p ev below _ T106 (mkF m 96 #[.val (.ref so), .val (.int (-1 : Int32)), .val (.long lw), .second, .val (.long lw), .second, .val (.int (Int32.ofNat N)), .val (.long (own_L (own_F A.toInt B.toInt e N))), .second, .val (.int (1 : Int32))] [(.long (own_L 0)), (.long lw)])
    refine Rch.go (fun _ q => XS.lcmp X106.here hx rfl (hb hby dga_96) rfl q) ?_
    show Rch p ev below _ T106 (mkF m 97 #[.val (.ref so), .val (.int (-1 : Int32)), .val (.long lw), .second, .val (.long lw), .second, .val (.int (Int32.ofNat N)), .val (.long (own_L (own_F A.toInt B.toInt e N))), .second, .val (.int (1 : Int32))] [(.int (lcmpW lw (own_L 0)))])
    by_cases hc97 : 0 < lw.toInt
    · skip
      refine Rch.go (fun _ q => XS.ifNo X106.here hx rfl (hb hby dga_97) rfl ((if0 _ _).trans (tlt ((own_lc_gt' (v := 0) (w := lw) (by omega) (by omega)).mpr hc97)).2.2.2) q) ?_
      show Rch p ev below _ T106 (mkF m 100 #[.val (.ref so), .val (.int (-1 : Int32)), .val (.long lw), .second, .val (.long lw), .second, .val (.int (Int32.ofNat N)), .val (.long (own_L (own_F A.toInt B.toInt e N))), .second, .val (.int (1 : Int32))] [])
      refine Rch.go (fun _ q => XS.lloadN X106.here hx rfl (hb hby dga_100) rfl  q) ?_
      show Rch p ev below _ T106 (mkF m 101 #[.val (.ref so), .val (.int (-1 : Int32)), .val (.long lw), .second, .val (.long lw), .second, .val (.int (Int32.ofNat N)), .val (.long (own_L (own_F A.toInt B.toInt e N))), .second, .val (.int (1 : Int32))] [(.long lw)])
      refine Rch.go (fun _ q => XS.lload X106.here hx rfl (hb hby dga_101) rfl  q) ?_
      show Rch p ev below _ T106 (mkF m 103 #[.val (.ref so), .val (.int (-1 : Int32)), .val (.long lw), .second, .val (.long lw), .second, .val (.int (Int32.ofNat N)), .val (.long (own_L (own_F A.toInt B.toInt e N))), .second, .val (.int (1 : Int32))] [(.long (own_L (own_F A.toInt B.toInt e N))), (.long lw)])
      refine Rch.go (fun _ q => XS.lcmp X106.here hx rfl (hb hby dga_103) rfl q) ?_
      show Rch p ev below _ T106 (mkF m 104 #[.val (.ref so), .val (.int (-1 : Int32)), .val (.long lw), .second, .val (.long lw), .second, .val (.int (Int32.ofNat N)), .val (.long (own_L (own_F A.toInt B.toInt e N))), .second, .val (.int (1 : Int32))] [(.int (lcmpW lw (own_L (own_F A.toInt B.toInt e N))))])
      by_cases hc104 : (own_F A.toInt B.toInt e N) < lw.toInt
      · skip
        refine Rch.go (fun _ q => XS.ifYes X106.here hx rfl (pc0 := 104) (pc' := 121) rfl (hb hby dga_104) rfl ((if0 _ _).trans (tlt ((own_lc_gt' (v := (own_F A.toInt B.toInt e N)) (w := lw) (by omega) (by omega)).mpr hc104)).2.2.1) (by decide) (by decide) q) ?_
        show Rch p ev below _ T106 (mkF m 121 #[.val (.ref so), .val (.int (-1 : Int32)), .val (.long lw), .second, .val (.long lw), .second, .val (.int (Int32.ofNat N)), .val (.long (own_L (own_F A.toInt B.toInt e N))), .second, .val (.int (1 : Int32))] [])
        refine Rch.go (fun _ q => XS.lload X106.here hx rfl (hb hby dga_121) rfl  q) ?_
        show Rch p ev below _ T106 (mkF m 123 #[.val (.ref so), .val (.int (-1 : Int32)), .val (.long lw), .second, .val (.long lw), .second, .val (.int (Int32.ofNat N)), .val (.long (own_L (own_F A.toInt B.toInt e N))), .second, .val (.int (1 : Int32))] [(.long (own_L (own_F A.toInt B.toInt e N)))])
        refine Rch.go (fun _ q => XS.lloadN X106.here hx rfl (hb hby dga_123) rfl  q) ?_
        show Rch p ev below _ T106 (mkF m 124 #[.val (.ref so), .val (.int (-1 : Int32)), .val (.long lw), .second, .val (.long lw), .second, .val (.int (Int32.ofNat N)), .val (.long (own_L (own_F A.toInt B.toInt e N))), .second, .val (.int (1 : Int32))] [(.long lw), (.long (own_L (own_F A.toInt B.toInt e N)))])
        refine Rch.go (fun _ q => XS.lcmp X106.here hx rfl (hb hby dga_124) rfl q) ?_
        show Rch p ev below _ T106 (mkF m 125 #[.val (.ref so), .val (.int (-1 : Int32)), .val (.long lw), .second, .val (.long lw), .second, .val (.int (Int32.ofNat N)), .val (.long (own_L (own_F A.toInt B.toInt e N))), .second, .val (.int (1 : Int32))] [(.int (lcmpW (own_L (own_F A.toInt B.toInt e N)) lw))])
        refine Rch.go (fun _ q => XS.ifNo X106.here hx rfl (hb hby dga_125) rfl ((if0 _ _).trans (tlt ((own_lc_lt (v := (own_F A.toInt B.toInt e N)) (w := lw) (by omega) (by omega)).mpr (by omega))).2.1) q) ?_
        show Rch p ev below _ T106 (mkF m 128 #[.val (.ref so), .val (.int (-1 : Int32)), .val (.long lw), .second, .val (.long lw), .second, .val (.int (Int32.ofNat N)), .val (.long (own_L (own_F A.toInt B.toInt e N))), .second, .val (.int (1 : Int32))] [])
        refine Rch.go (fun _ q => XS.aloadN X106.here hx rfl (hb hby dga_128) rfl rfl q) ?_
        show Rch p ev below _ T106 (mkF m 129 #[.val (.ref so), .val (.int (-1 : Int32)), .val (.long lw), .second, .val (.long lw), .second, .val (.int (Int32.ofNat N)), .val (.long (own_L (own_F A.toInt B.toInt e N))), .second, .val (.int (1 : Int32))] [(.ref so)])
        refine Rch.go (fun _ q => XS.lload X106.here hx rfl (hb hby dga_129) rfl  q) ?_
        show Rch p ev below _ T106 (mkF m 131 #[.val (.ref so), .val (.int (-1 : Int32)), .val (.long lw), .second, .val (.long lw), .second, .val (.int (Int32.ofNat N)), .val (.long (own_L (own_F A.toInt B.toInt e N))), .second, .val (.int (1 : Int32))] [(.long (own_L (own_F A.toInt B.toInt e N))), (.ref so)])
        obtain ⟨fc, bc, S1⟩ := id S106
        obtain ⟨rs, rt, fs, bs, kr, kt, kf, kb, rl, tl, fl, bl, zl, fr, br, los, sm, gb, WW, Is, If, Ib⟩ := S1
        obtain ⟨hA, hB, he1, heN, hN8, hrc, r0, r1, t0, t1, zN, z16, hsm, hrl2, htl2⟩ := id Is
        have hfcN := If.1
        have hbcN := Ib.1
        obtain ⟨T110, h110, X110, e110, W110, st110⟩ := putF X106 hx hZ hown (host := "") (Or.inl (hw _ (List.mem_of_getElem? (i := 98) rfl))) Via.refl rfl (WW.2.1 13 _ _ _ rfl rfl) WW.1 (Or.inl (hw _ (List.mem_of_getElem? (i := 99) rfl))) (hw _ (List.mem_of_getElem? (i := 8) rfl)) (ty := .long) (by decide) rfl rfl (g := (mkF m 131 #[.val (.ref so), .val (.int (-1 : Int32)), .val (.long lw), .second, .val (.long lw), .second, .val (.int (Int32.ofNat N)), .val (.long (own_L (own_F A.toInt B.toInt e N))), .second, .val (.int (1 : Int32))] [(.long (own_L (own_F A.toInt B.toInt e N))), (.ref so)])) rfl rfl (hb hby dga_131)
        have N110 := Fr.snoc X110 N106 WW.2.2.2.2.2.2.1.1
        have Z110 : n0 ≤ h110.size := by rw [W110.size]; exact WW.2.2.2.2.2.2.1.2.2.2.2.2
        refine Rch.go st110 ?_
        show Rch p ev below _ T110 (mkF m 134 #[.val (.ref so), .val (.int (-1 : Int32)), .val (.long lw), .second, .val (.long lw), .second, .val (.int (Int32.ofNat N)), .val (.long (own_L (own_F A.toInt B.toInt e N))), .second, .val (.int (1 : Int32))] [])
        have WW110 : own_W Z h110 n0 so rs rt fs bs kr kt kf kb rl tl fl bl zl [(.ref rs), (.ref rt), (.int rc), (.int (Int32.ofNat N)), (.long sm), (.ref fs), (.int (Int32.ofNat fc)), (.int fr), (.ref bs), (.int (Int32.ofNat bc)), (.int br), (.int los), (.int (-1 : Int32)), (.long (own_L (own_F A.toInt B.toInt e N))), (.long ga)] := own_W_put hw WW 13 rfl W110
        refine Rch.go (fun _ q => XS.aloadN X110.here hx rfl (hb hby dga_134) rfl rfl q) ?_
        show Rch p ev below _ T110 (mkF m 135 #[.val (.ref so), .val (.int (-1 : Int32)), .val (.long lw), .second, .val (.long lw), .second, .val (.int (Int32.ofNat N)), .val (.long (own_L (own_F A.toInt B.toInt e N))), .second, .val (.int (1 : Int32))] [(.ref so)])
        refine Rch.go (fun _ q => X110.ldc2J hx (own := "com/example/binflow/binflow/solve/SubsetSums") hown (mvT hZ (hw _ (List.mem_of_getElem? (i := 119) rfl))) rfl (hb hby dga_135) q) ?_
        show Rch p ev below _ T110 (mkF m 138 #[.val (.ref so), .val (.int (-1 : Int32)), .val (.long lw), .second, .val (.long lw), .second, .val (.int (Int32.ofNat N)), .val (.long (own_L (own_F A.toInt B.toInt e N))), .second, .val (.int (1 : Int32))] [(.long (9223372036854775807 : Int64)), (.ref so)])
        obtain ⟨T111, h111, X111, e111, W111, st111⟩ := putF X110 hx hZ hown (host := "") (Or.inl (hw _ (List.mem_of_getElem? (i := 100) rfl))) Via.refl e110 (WW110.2.1 14 _ _ _ rfl rfl) WW110.1 (Or.inl (hw _ (List.mem_of_getElem? (i := 101) rfl))) (hw _ (List.mem_of_getElem? (i := 8) rfl)) (ty := .long) (by decide) rfl rfl (g := (mkF m 138 #[.val (.ref so), .val (.int (-1 : Int32)), .val (.long lw), .second, .val (.long lw), .second, .val (.int (Int32.ofNat N)), .val (.long (own_L (own_F A.toInt B.toInt e N))), .second, .val (.int (1 : Int32))] [(.long (9223372036854775807 : Int64)), (.ref so)])) rfl rfl (hb hby dga_138)
        have N111 := Fr.snoc X111 N110 WW110.2.2.2.2.2.2.1.1
        have Z111 : n0 ≤ h111.size := by rw [W111.size]; exact WW110.2.2.2.2.2.2.1.2.2.2.2.2
        refine Rch.go st111 ?_
        show Rch p ev below _ T111 (mkF m 141 #[.val (.ref so), .val (.int (-1 : Int32)), .val (.long lw), .second, .val (.long lw), .second, .val (.int (Int32.ofNat N)), .val (.long (own_L (own_F A.toInt B.toInt e N))), .second, .val (.int (1 : Int32))] [])
        have WW111 : own_W Z h111 n0 so rs rt fs bs kr kt kf kb rl tl fl bl zl [(.ref rs), (.ref rt), (.int rc), (.int (Int32.ofNat N)), (.long sm), (.ref fs), (.int (Int32.ofNat fc)), (.int fr), (.ref bs), (.int (Int32.ofNat bc)), (.int br), (.int los), (.int (-1 : Int32)), (.long (own_L (own_F A.toInt B.toInt e N))), (.long (9223372036854775807 : Int64))] := own_W_put hw WW110 14 rfl W111
        have S112 : own_Sg Z h111 n0 so A B e N rc (-1 : Int32) (9223372036854775807 : Int64) := ⟨fc, bc, rs, rt, fs, bs, kr, kt, kf, kb, rl, tl, fl, bl, zl, fr, br, _, sm, _, WW111, Is, If, Ib⟩
        refine Rch.go (fun _ q => XS.goto X111.here hx rfl (pc0 := 141) (pc' := 178) rfl (hb hby dga_141) (by decide) (by decide) q) ?_
        show Rch p ev below _ T111 (mkF m 178 #[.val (.ref so), .val (.int (-1 : Int32)), .val (.long lw), .second, .val (.long lw), .second, .val (.int (Int32.ofNat N)), .val (.long (own_L (own_F A.toInt B.toInt e N))), .second, .val (.int (1 : Int32))] [])
        refine Rch.go (fun _ q => XS.iload X111.here hx rfl (hb hby dga_178) rfl  q) ?_
        show Rch p ev below _ T111 (mkF m 180 #[.val (.ref so), .val (.int (-1 : Int32)), .val (.long lw), .second, .val (.long lw), .second, .val (.int (Int32.ofNat N)), .val (.long (own_L (own_F A.toInt B.toInt e N))), .second, .val (.int (1 : Int32))] [(.int (1 : Int32))])
        refine Rch.retZ X111 hx hlk Bd.returns (hb hby dga_180) (by decide) (by decide) ?_
        unfold Qrmga
        exact ⟨(1 : Int32), _, rfl, N111, (by rw [e111]; exact S112), by unfold own_G; right; right; right; left; exact ⟨hc97, hc104, rfl, rfl⟩⟩
      · skip
        refine Rch.go (fun _ q => XS.ifNo X106.here hx rfl (hb hby dga_104) rfl ((if0 _ _).trans (flt ((mt (own_lc_gt' (v := (own_F A.toInt B.toInt e N)) (w := lw) (by omega) (by omega)).mp hc104))).2.2.1) q) ?_
        show Rch p ev below _ T106 (mkF m 107 #[.val (.ref so), .val (.int (-1 : Int32)), .val (.long lw), .second, .val (.long lw), .second, .val (.int (Int32.ofNat N)), .val (.long (own_L (own_F A.toInt B.toInt e N))), .second, .val (.int (1 : Int32))] [])
        refine Rch.go (fun _ q => XS.lload X106.here hx rfl (hb hby dga_107) rfl  q) ?_
        show Rch p ev below _ T106 (mkF m 109 #[.val (.ref so), .val (.int (-1 : Int32)), .val (.long lw), .second, .val (.long lw), .second, .val (.int (Int32.ofNat N)), .val (.long (own_L (own_F A.toInt B.toInt e N))), .second, .val (.int (1 : Int32))] [(.long (own_L (own_F A.toInt B.toInt e N)))])
        refine Rch.go (fun _ q => XS.lload X106.here hx rfl (hb hby dga_109) rfl  q) ?_
        show Rch p ev below _ T106 (mkF m 111 #[.val (.ref so), .val (.int (-1 : Int32)), .val (.long lw), .second, .val (.long lw), .second, .val (.int (Int32.ofNat N)), .val (.long (own_L (own_F A.toInt B.toInt e N))), .second, .val (.int (1 : Int32))] [(.long lw), (.long (own_L (own_F A.toInt B.toInt e N)))])
        refine Rch.go (fun _ q => XS.lcmp X106.here hx rfl (hb hby dga_111) rfl q) ?_
        show Rch p ev below _ T106 (mkF m 112 #[.val (.ref so), .val (.int (-1 : Int32)), .val (.long lw), .second, .val (.long lw), .second, .val (.int (Int32.ofNat N)), .val (.long (own_L (own_F A.toInt B.toInt e N))), .second, .val (.int (1 : Int32))] [(.int (lcmpW (own_L (own_F A.toInt B.toInt e N)) lw))])
        by_cases hc112 : lw.toInt < (own_F A.toInt B.toInt e N)
        · skip
          refine Rch.go (fun _ q => XS.ifYes X106.here hx rfl (pc0 := 112) (pc' := 121) rfl (hb hby dga_112) rfl ((if0 _ _).trans (tlt ((own_lc_gt (v := (own_F A.toInt B.toInt e N)) (w := lw) (by omega) (by omega)).mpr hc112)).2.2.1) (by decide) (by decide) q) ?_
          show Rch p ev below _ T106 (mkF m 121 #[.val (.ref so), .val (.int (-1 : Int32)), .val (.long lw), .second, .val (.long lw), .second, .val (.int (Int32.ofNat N)), .val (.long (own_L (own_F A.toInt B.toInt e N))), .second, .val (.int (1 : Int32))] [])
          refine Rch.go (fun _ q => XS.lload X106.here hx rfl (hb hby dga_121) rfl  q) ?_
          show Rch p ev below _ T106 (mkF m 123 #[.val (.ref so), .val (.int (-1 : Int32)), .val (.long lw), .second, .val (.long lw), .second, .val (.int (Int32.ofNat N)), .val (.long (own_L (own_F A.toInt B.toInt e N))), .second, .val (.int (1 : Int32))] [(.long (own_L (own_F A.toInt B.toInt e N)))])
          refine Rch.go (fun _ q => XS.lloadN X106.here hx rfl (hb hby dga_123) rfl  q) ?_
          show Rch p ev below _ T106 (mkF m 124 #[.val (.ref so), .val (.int (-1 : Int32)), .val (.long lw), .second, .val (.long lw), .second, .val (.int (Int32.ofNat N)), .val (.long (own_L (own_F A.toInt B.toInt e N))), .second, .val (.int (1 : Int32))] [(.long lw), (.long (own_L (own_F A.toInt B.toInt e N)))])
          refine Rch.go (fun _ q => XS.lcmp X106.here hx rfl (hb hby dga_124) rfl q) ?_
          show Rch p ev below _ T106 (mkF m 125 #[.val (.ref so), .val (.int (-1 : Int32)), .val (.long lw), .second, .val (.long lw), .second, .val (.int (Int32.ofNat N)), .val (.long (own_L (own_F A.toInt B.toInt e N))), .second, .val (.int (1 : Int32))] [(.int (lcmpW (own_L (own_F A.toInt B.toInt e N)) lw))])
          refine Rch.go (fun _ q => XS.ifYes X106.here hx rfl (pc0 := 125) (pc' := 144) rfl (hb hby dga_125) rfl ((if0 _ _).trans (flt (mt (own_lc_lt (v := (own_F A.toInt B.toInt e N)) (w := lw) (by omega) (by omega)).mp (by omega))).2.1) (by decide) (by decide) q) ?_
          show Rch p ev below _ T106 (mkF m 144 #[.val (.ref so), .val (.int (-1 : Int32)), .val (.long lw), .second, .val (.long lw), .second, .val (.int (Int32.ofNat N)), .val (.long (own_L (own_F A.toInt B.toInt e N))), .second, .val (.int (1 : Int32))] [])
          refine Rch.go (fun _ q => XS.lload X106.here hx rfl (hb hby dga_144) rfl  q) ?_
          show Rch p ev below _ T106 (mkF m 146 #[.val (.ref so), .val (.int (-1 : Int32)), .val (.long lw), .second, .val (.long lw), .second, .val (.int (Int32.ofNat N)), .val (.long (own_L (own_F A.toInt B.toInt e N))), .second, .val (.int (1 : Int32))] [(.long lw)])
          refine Rch.go (fun _ q => XS.lloadN X106.here hx rfl (hb hby dga_146) rfl  q) ?_
          show Rch p ev below _ T106 (mkF m 147 #[.val (.ref so), .val (.int (-1 : Int32)), .val (.long lw), .second, .val (.long lw), .second, .val (.int (Int32.ofNat N)), .val (.long (own_L (own_F A.toInt B.toInt e N))), .second, .val (.int (1 : Int32))] [(.long lw), (.long lw)])
          refine Rch.go (fun _ q => XS.lsub X106.here hx rfl (hb hby dga_147) rfl q) ?_
          show Rch p ev below _ T106 (mkF m 148 #[.val (.ref so), .val (.int (-1 : Int32)), .val (.long lw), .second, .val (.long lw), .second, .val (.int (Int32.ofNat N)), .val (.long (own_L (own_F A.toInt B.toInt e N))), .second, .val (.int (1 : Int32))] [(.long (lw - lw))])
          refine Rch.go (fun _ q => X106.ldc2J hx (own := "com/example/binflow/binflow/solve/SubsetSums") hown (mvT hZ (hw _ (List.mem_of_getElem? (i := 102) rfl))) rfl (hb hby dga_148) q) ?_
          show Rch p ev below _ T106 (mkF m 151 #[.val (.ref so), .val (.int (-1 : Int32)), .val (.long lw), .second, .val (.long lw), .second, .val (.int (Int32.ofNat N)), .val (.long (own_L (own_F A.toInt B.toInt e N))), .second, .val (.int (1 : Int32))] [(.long (2 : Int64)), (.long (lw - lw))])
          refine Rch.go (fun _ q => XS.ladd X106.here hx rfl (hb hby dga_151) rfl q) ?_
          show Rch p ev below _ T106 (mkF m 152 #[.val (.ref so), .val (.int (-1 : Int32)), .val (.long lw), .second, .val (.long lw), .second, .val (.int (Int32.ofNat N)), .val (.long (own_L (own_F A.toInt B.toInt e N))), .second, .val (.int (1 : Int32))] [(.long ((lw - lw) + (2 : Int64)))])
          rw [show ((lw - lw) + (2 : Int64)) = (own_L 2) from (by rw [Int64.sub_self]; rfl)]
          show Rch p ev below _ T106 (mkF m 152 #[.val (.ref so), .val (.int (-1 : Int32)), .val (.long lw), .second, .val (.long lw), .second, .val (.int (Int32.ofNat N)), .val (.long (own_L (own_F A.toInt B.toInt e N))), .second, .val (.int (1 : Int32))] [(.long (own_L 2))])
          obtain ⟨fc, bc, S1⟩ := id S106
          obtain ⟨rs, rt, fs, bs, kr, kt, kf, kb, rl, tl, fl, bl, zl, fr, br, los, sm, gb, WW, Is, If, Ib⟩ := S1
          obtain ⟨hA, hB, he1, heN, hN8, hrc, r0, r1, t0, t1, zN, z16, hsm, hrl2, htl2⟩ := id Is
          have hfcN := If.1
          have hbcN := Ib.1
          refine Rch.go (fun _ q => XS.aloadN X106.here hx rfl (hb hby dga_152) rfl rfl q) ?_
          show Rch p ev below _ T106 (mkF m 153 #[.val (.ref so), .val (.int (-1 : Int32)), .val (.long lw), .second, .val (.long lw), .second, .val (.int (Int32.ofNat N)), .val (.long (own_L (own_F A.toInt B.toInt e N))), .second, .val (.int (1 : Int32))] [(.ref so), (.long (own_L 2))])
          obtain ⟨T113, X113, e113, st113⟩ := getF X106 hx hZ hown (host := "") (Or.inl (hw _ (List.mem_of_getElem? (i := 22) rfl))) Via.refl rfl (WW.2.1 0 _ _ _ rfl rfl) (g := (mkF m 153 #[.val (.ref so), .val (.int (-1 : Int32)), .val (.long lw), .second, .val (.long lw), .second, .val (.int (Int32.ofNat N)), .val (.long (own_L (own_F A.toInt B.toInt e N))), .second, .val (.int (1 : Int32))] [(.ref so), (.long (own_L 2))])) rfl rfl (hb hby dga_153)
          refine Rch.go st113 ?_
          show Rch p ev below _ T113 (mkF m 156 #[.val (.ref so), .val (.int (-1 : Int32)), .val (.long lw), .second, .val (.long lw), .second, .val (.int (Int32.ofNat N)), .val (.long (own_L (own_F A.toInt B.toInt e N))), .second, .val (.int (1 : Int32))] [(.ref rs), (.long (own_L 2))])
          refine Rch.go (fun _ q => XS.iconst X113.here hx rfl (hb hby dga_156) q) ?_
          show Rch p ev below _ T113 (mkF m 157 #[.val (.ref so), .val (.int (-1 : Int32)), .val (.long lw), .second, .val (.long lw), .second, .val (.int (Int32.ofNat N)), .val (.long (own_L (own_F A.toInt B.toInt e N))), .second, .val (.int (1 : Int32))] [(.int (0 : Int32)), (.ref rs), (.long (own_L 2))])
          refine Rch.go (fun _ q => ldI X113 hx hZ e113 WW.2.2.1 (j := (0 : Int32)) (v := (.int A)) (by decide) r0 (g := (mkF m 157 #[.val (.ref so), .val (.int (-1 : Int32)), .val (.long lw), .second, .val (.long lw), .second, .val (.int (Int32.ofNat N)), .val (.long (own_L (own_F A.toInt B.toInt e N))), .second, .val (.int (1 : Int32))] [(.int (0 : Int32)), (.ref rs), (.long (own_L 2))])) rfl rfl (hb hby dga_157) _ q) ?_
          show Rch p ev below _ T113 (mkF m 158 #[.val (.ref so), .val (.int (-1 : Int32)), .val (.long lw), .second, .val (.long lw), .second, .val (.int (Int32.ofNat N)), .val (.long (own_L (own_F A.toInt B.toInt e N))), .second, .val (.int (1 : Int32))] [(.int A), (.long (own_L 2))])
          refine Rch.go (fun _ q => XS.i2l X113.here hx rfl (hb hby dga_158) rfl q) ?_
          show Rch p ev below _ T113 (mkF m 159 #[.val (.ref so), .val (.int (-1 : Int32)), .val (.long lw), .second, .val (.long lw), .second, .val (.int (Int32.ofNat N)), .val (.long (own_L (own_F A.toInt B.toInt e N))), .second, .val (.int (1 : Int32))] [(.long (A.toInt64)), (.long (own_L 2))])
          rw [show (A.toInt64) = (own_L A.toInt) from (own_L_i2l A)]
          show Rch p ev below _ T113 (mkF m 159 #[.val (.ref so), .val (.int (-1 : Int32)), .val (.long lw), .second, .val (.long lw), .second, .val (.int (Int32.ofNat N)), .val (.long (own_L (own_F A.toInt B.toInt e N))), .second, .val (.int (1 : Int32))] [(.long (own_L A.toInt)), (.long (own_L 2))])
          refine Rch.go (fun _ q => XS.lcmp X113.here hx rfl (hb hby dga_159) rfl q) ?_
          show Rch p ev below _ T113 (mkF m 160 #[.val (.ref so), .val (.int (-1 : Int32)), .val (.long lw), .second, .val (.long lw), .second, .val (.int (Int32.ofNat N)), .val (.long (own_L (own_F A.toInt B.toInt e N))), .second, .val (.int (1 : Int32))] [(.int (lcmpW (own_L 2) (own_L A.toInt)))])
          by_cases hc160 : A.toInt < 2
          · skip
            refine Rch.go (fun _ q => XS.ifNo X113.here hx rfl (hb hby dga_160) rfl ((if0 _ _).trans (tlt (((own_lc_gt (v := 2) (w := own_L A.toInt) (by omega) (by omega)).mpr (by rw [own_L_int _ (by have := rng32 A; omega) (by have := rng32 A; omega)]; exact hc160)))).2.2.2) q) ?_
            show Rch p ev below _ T113 (mkF m 163 #[.val (.ref so), .val (.int (-1 : Int32)), .val (.long lw), .second, .val (.long lw), .second, .val (.int (Int32.ofNat N)), .val (.long (own_L (own_F A.toInt B.toInt e N))), .second, .val (.int (1 : Int32))] [])
            refine Rch.go (fun _ q => XS.iconst X113.here hx rfl (hb hby dga_163) q) ?_
            show Rch p ev below _ T113 (mkF m 164 #[.val (.ref so), .val (.int (-1 : Int32)), .val (.long lw), .second, .val (.long lw), .second, .val (.int (Int32.ofNat N)), .val (.long (own_L (own_F A.toInt B.toInt e N))), .second, .val (.int (1 : Int32))] [(.int (0 : Int32))])
            refine Rch.go (fun _ q => XS.istore X113.here hx rfl (hb hby dga_164) rfl (l' := #[.val (.ref so), .val (.int (-1 : Int32)), .val (.long lw), .second, .val (.long lw), .second, .val (.int (Int32.ofNat N)), .val (.long (own_L (own_F A.toInt B.toInt e N))), .second, .val (.int (0 : Int32))]) rfl q) ?_
            show Rch p ev below _ T113 (mkF m 166 #[.val (.ref so), .val (.int (-1 : Int32)), .val (.long lw), .second, .val (.long lw), .second, .val (.int (Int32.ofNat N)), .val (.long (own_L (own_F A.toInt B.toInt e N))), .second, .val (.int (0 : Int32))] [])
            refine Rch.go (fun _ q => XS.goto X113.here hx rfl (pc0 := 166) (pc' := 178) rfl (hb hby dga_166) (by decide) (by decide) q) ?_
            show Rch p ev below _ T113 (mkF m 178 #[.val (.ref so), .val (.int (-1 : Int32)), .val (.long lw), .second, .val (.long lw), .second, .val (.int (Int32.ofNat N)), .val (.long (own_L (own_F A.toInt B.toInt e N))), .second, .val (.int (0 : Int32))] [])
            refine Rch.go (fun _ q => XS.iload X113.here hx rfl (hb hby dga_178) rfl  q) ?_
            show Rch p ev below _ T113 (mkF m 180 #[.val (.ref so), .val (.int (-1 : Int32)), .val (.long lw), .second, .val (.long lw), .second, .val (.int (Int32.ofNat N)), .val (.long (own_L (own_F A.toInt B.toInt e N))), .second, .val (.int (0 : Int32))] [(.int (0 : Int32))])
            refine Rch.retZ X113 hx hlk Bd.returns (hb hby dga_180) (by decide) (by decide) ?_
            unfold Qrmga
            exact ⟨(0 : Int32), _, rfl, N106, (by rw [e113]; exact S106), by unfold own_G; right; right; right; right; left; exact ⟨hc97, hc112, hc160, rfl⟩⟩
          · skip
            refine Rch.go (fun _ q => XS.ifYes X113.here hx rfl (pc0 := 160) (pc' := 169) rfl (hb hby dga_160) rfl ((if0 _ _).trans (flt ((mt (own_lc_gt (v := 2) (w := own_L A.toInt) (by omega) (by omega)).mp (by rw [own_L_int _ (by have := rng32 A; omega) (by have := rng32 A; omega)]; exact hc160)))).2.2.2) (by decide) (by decide) q) ?_
            show Rch p ev below _ T113 (mkF m 169 #[.val (.ref so), .val (.int (-1 : Int32)), .val (.long lw), .second, .val (.long lw), .second, .val (.int (Int32.ofNat N)), .val (.long (own_L (own_F A.toInt B.toInt e N))), .second, .val (.int (1 : Int32))] [])
            have hp1 : 0 < lw.toInt := hc97
            have hp2 : lw.toInt < (own_F A.toInt B.toInt e N) := by omega
            refine Rch.go (fun _ q => XS.aloadN X113.here hx rfl (hb hby dga_169) rfl rfl q) ?_
            show Rch p ev below _ T113 (mkF m 170 #[.val (.ref so), .val (.int (-1 : Int32)), .val (.long lw), .second, .val (.long lw), .second, .val (.int (Int32.ofNat N)), .val (.long (own_L (own_F A.toInt B.toInt e N))), .second, .val (.int (1 : Int32))] [(.ref so)])
            refine Rch.go (fun _ q => XS.lloadN X113.here hx rfl (hb hby dga_170) rfl  q) ?_
            show Rch p ev below _ T113 (mkF m 171 #[.val (.ref so), .val (.int (-1 : Int32)), .val (.long lw), .second, .val (.long lw), .second, .val (.int (Int32.ofNat N)), .val (.long (own_L (own_F A.toInt B.toInt e N))), .second, .val (.int (1 : Int32))] [(.long lw), (.ref so)])
            refine Rch.go (fun _ q => XS.lload X113.here hx rfl (hb hby dga_171) rfl  q) ?_
            show Rch p ev below _ T113 (mkF m 173 #[.val (.ref so), .val (.int (-1 : Int32)), .val (.long lw), .second, .val (.long lw), .second, .val (.int (Int32.ofNat N)), .val (.long (own_L (own_F A.toInt B.toInt e N))), .second, .val (.int (1 : Int32))] [(.long lw), (.long lw), (.ref so)])
            obtain ⟨cq114, q114, q114'⟩ := Exa.cell (own_Sg_exa S106)
            obtain ⟨_, _, ⟨T114, L114, k114, n114⟩, -, X114, ⟨Lc114, hQ114, l114, y114, z114⟩, st114⟩ := X113.privateBack hx (y := (⟨"com/example/binflow/binflow/solve/SubsetSums", "countedGap", "(JJ)Z"⟩ : MethodName)) hown (mvT hZ (hw _ (List.mem_of_getElem? (i := 103) rfl))) (mvT hZ (hw _ (List.mem_of_getElem? (i := 104) rfl))) (mvT hZ (own_sel (by decide) (hw _ (List.mem_of_getElem? (i := 8) rfl)) (hw _ (List.mem_of_getElem? (i := 105) rfl)) (hw _ (List.mem_of_getElem? (i := 104) rfl)))) (Cond.privateMethod_at (mvP hZ (hw _ (List.mem_of_getElem? (i := 105) rfl)) (args := #[]))) (mvT hZ (hw _ (List.mem_of_getElem? (i := 106) rfl))) (by decide) (backOf (W := 0) (rmcg l Z a0 hw [] so lw A B e N rc ga T106.heap n0 (own_Sg_le S106) S106 hp1 hp2) hZ (hw _ (List.mem_of_getElem? (i := 106) rfl)) (hw _ (List.mem_of_getElem? (i := 9) rfl)) (by decide) (by decide)) (g := (mkF m 173 #[.val (.ref so), .val (.int (-1 : Int32)), .val (.long lw), .second, .val (.long lw), .second, .val (.int (Int32.ofNat N)), .val (.long (own_L (own_F A.toInt B.toInt e N))), .second, .val (.int (1 : Int32))] [(.long lw), (.long lw), (.ref so)])) rfl (by rw [hml]; rfl) (Steps.refl _) (a := so) (by rw [e113]; exact q114) q114' (argsL := [(.long lw), (.long lw)]) (rest := []) (lenOf own_pd5 rfl) rfl (by show 2 * 0 + _ ≤ _; exact Nat.le_of_eq rfl) (hb hby dga_173) (fun _ _ => ⟨rfl, e113, (by decide : 0 + 0 ≤ _), (by decide : 0 + 0 ≤ _)⟩)
            dsimp only [Pt.U, Pt.locs, Pt.cells, Pt.slots] at X114 l114 y114 z114 st114 hQ114
            subst l114 y114 z114
            obtain ⟨rr, gaN, rfl, Nc, Sc, hCG⟩ := hQ114
            refine Rch.jump st114 ?_
            show Rch p ev below _ T114 (mkF m 176 #[.val (.ref so), .val (.int (-1 : Int32)), .val (.long lw), .second, .val (.long lw), .second, .val (.int (Int32.ofNat N)), .val (.long (own_L (own_F A.toInt B.toInt e N))), .second, .val (.int (1 : Int32))] [(.int rr)])
            have N114 := Fr.app N106 Nc
            have S114 := Sc
            refine Rch.go (fun _ q => XS.istore X114.here hx rfl (hb hby dga_176) rfl (l' := #[.val (.ref so), .val (.int (-1 : Int32)), .val (.long lw), .second, .val (.long lw), .second, .val (.int (Int32.ofNat N)), .val (.long (own_L (own_F A.toInt B.toInt e N))), .second, .val (.int rr)]) rfl q) ?_
            show Rch p ev below _ T114 (mkF m 178 #[.val (.ref so), .val (.int (-1 : Int32)), .val (.long lw), .second, .val (.long lw), .second, .val (.int (Int32.ofNat N)), .val (.long (own_L (own_F A.toInt B.toInt e N))), .second, .val (.int rr)] [])
            refine Rch.go (fun _ q => XS.iload X114.here hx rfl (hb hby dga_178) rfl  q) ?_
            show Rch p ev below _ T114 (mkF m 180 #[.val (.ref so), .val (.int (-1 : Int32)), .val (.long lw), .second, .val (.long lw), .second, .val (.int (Int32.ofNat N)), .val (.long (own_L (own_F A.toInt B.toInt e N))), .second, .val (.int rr)] [(.int rr)])
            have hnr : nar .boolean rr = rr := by rcases hCG with q | q <;> rw [q.1] <;> rfl
            refine Rch.retZ X114 hx hlk Bd.returns (hb hby dga_180) (by decide) (by decide) ?_
            unfold Qrmga
            rw [hnr]
            exact ⟨rr, gaN, rfl, N114, S114, by right; right; right; right; right; exact ⟨hp1, hp2, by omega, hCG⟩⟩
        · skip
          refine Rch.go (fun _ q => XS.ifNo X106.here hx rfl (hb hby dga_112) rfl ((if0 _ _).trans (flt ((mt (own_lc_gt (v := (own_F A.toInt B.toInt e N)) (w := lw) (by omega) (by omega)).mp hc112))).2.2.1) q) ?_
          show Rch p ev below _ T106 (mkF m 115 #[.val (.ref so), .val (.int (-1 : Int32)), .val (.long lw), .second, .val (.long lw), .second, .val (.int (Int32.ofNat N)), .val (.long (own_L (own_F A.toInt B.toInt e N))), .second, .val (.int (1 : Int32))] [])
          refine Rch.go (fun _ q => XS.iconst X106.here hx rfl (hb hby dga_115) q) ?_
          show Rch p ev below _ T106 (mkF m 116 #[.val (.ref so), .val (.int (-1 : Int32)), .val (.long lw), .second, .val (.long lw), .second, .val (.int (Int32.ofNat N)), .val (.long (own_L (own_F A.toInt B.toInt e N))), .second, .val (.int (1 : Int32))] [(.int (0 : Int32))])
          refine Rch.go (fun _ q => XS.istore X106.here hx rfl (hb hby dga_116) rfl (l' := #[.val (.ref so), .val (.int (-1 : Int32)), .val (.long lw), .second, .val (.long lw), .second, .val (.int (Int32.ofNat N)), .val (.long (own_L (own_F A.toInt B.toInt e N))), .second, .val (.int (0 : Int32))]) rfl q) ?_
          show Rch p ev below _ T106 (mkF m 118 #[.val (.ref so), .val (.int (-1 : Int32)), .val (.long lw), .second, .val (.long lw), .second, .val (.int (Int32.ofNat N)), .val (.long (own_L (own_F A.toInt B.toInt e N))), .second, .val (.int (0 : Int32))] [])
          refine Rch.go (fun _ q => XS.goto X106.here hx rfl (pc0 := 118) (pc' := 178) rfl (hb hby dga_118) (by decide) (by decide) q) ?_
          show Rch p ev below _ T106 (mkF m 178 #[.val (.ref so), .val (.int (-1 : Int32)), .val (.long lw), .second, .val (.long lw), .second, .val (.int (Int32.ofNat N)), .val (.long (own_L (own_F A.toInt B.toInt e N))), .second, .val (.int (0 : Int32))] [])
          refine Rch.go (fun _ q => XS.iload X106.here hx rfl (hb hby dga_178) rfl  q) ?_
          show Rch p ev below _ T106 (mkF m 180 #[.val (.ref so), .val (.int (-1 : Int32)), .val (.long lw), .second, .val (.long lw), .second, .val (.int (Int32.ofNat N)), .val (.long (own_L (own_F A.toInt B.toInt e N))), .second, .val (.int (0 : Int32))] [(.int (0 : Int32))])
          refine Rch.retZ X106 hx hlk Bd.returns (hb hby dga_180) (by decide) (by decide) ?_
          unfold Qrmga
          exact ⟨(0 : Int32), _, rfl, N106, S106, by unfold own_G; right; right; left; exact ⟨hc97, by omega, rfl⟩⟩
    · skip
      refine Rch.go (fun _ q => XS.ifYes X106.here hx rfl (pc0 := 97) (pc' := 115) rfl (hb hby dga_97) rfl ((if0 _ _).trans (flt ((mt (own_lc_gt' (v := 0) (w := lw) (by omega) (by omega)).mp hc97))).2.2.2) (by decide) (by decide) q) ?_
      show Rch p ev below _ T106 (mkF m 115 #[.val (.ref so), .val (.int (-1 : Int32)), .val (.long lw), .second, .val (.long lw), .second, .val (.int (Int32.ofNat N)), .val (.long (own_L (own_F A.toInt B.toInt e N))), .second, .val (.int (1 : Int32))] [])
      refine Rch.go (fun _ q => XS.iconst X106.here hx rfl (hb hby dga_115) q) ?_
      show Rch p ev below _ T106 (mkF m 116 #[.val (.ref so), .val (.int (-1 : Int32)), .val (.long lw), .second, .val (.long lw), .second, .val (.int (Int32.ofNat N)), .val (.long (own_L (own_F A.toInt B.toInt e N))), .second, .val (.int (1 : Int32))] [(.int (0 : Int32))])
      refine Rch.go (fun _ q => XS.istore X106.here hx rfl (hb hby dga_116) rfl (l' := #[.val (.ref so), .val (.int (-1 : Int32)), .val (.long lw), .second, .val (.long lw), .second, .val (.int (Int32.ofNat N)), .val (.long (own_L (own_F A.toInt B.toInt e N))), .second, .val (.int (0 : Int32))]) rfl q) ?_
      show Rch p ev below _ T106 (mkF m 118 #[.val (.ref so), .val (.int (-1 : Int32)), .val (.long lw), .second, .val (.long lw), .second, .val (.int (Int32.ofNat N)), .val (.long (own_L (own_F A.toInt B.toInt e N))), .second, .val (.int (0 : Int32))] [])
      refine Rch.go (fun _ q => XS.goto X106.here hx rfl (pc0 := 118) (pc' := 178) rfl (hb hby dga_118) (by decide) (by decide) q) ?_
      show Rch p ev below _ T106 (mkF m 178 #[.val (.ref so), .val (.int (-1 : Int32)), .val (.long lw), .second, .val (.long lw), .second, .val (.int (Int32.ofNat N)), .val (.long (own_L (own_F A.toInt B.toInt e N))), .second, .val (.int (0 : Int32))] [])
      refine Rch.go (fun _ q => XS.iload X106.here hx rfl (hb hby dga_178) rfl  q) ?_
      show Rch p ev below _ T106 (mkF m 180 #[.val (.ref so), .val (.int (-1 : Int32)), .val (.long lw), .second, .val (.long lw), .second, .val (.int (Int32.ofNat N)), .val (.long (own_L (own_F A.toInt B.toInt e N))), .second, .val (.int (0 : Int32))] [(.int (0 : Int32))])
      refine Rch.retZ X106 hx hlk Bd.returns (hb hby dga_180) (by decide) (by decide) ?_
      unfold Qrmga
      exact ⟨(0 : Int32), _, rfl, N106, S106, by unfold own_G; right; left; exact ⟨by omega, rfl⟩⟩
theorem own_pn11 : plainFor (⟨"com/example/binflow/binflow/solve/SubsetSums", "leastFrom", "(J)J"⟩ : MethodName) = true := by first | exact plainFor_of_name (by first | (simp [plainName, overriddenIn]; done) | decide +kernel) | decide +kernel
theorem own_pd7 : parseMethodDescriptor "(J)J" = some ⟨[.long], some .long⟩ := by decide +kernel
theorem dlf_0 : decode prog_23_method_7_code 0 = .ok (.aload_n 0, 1) := by decide +kernel
theorem dlf_1 : decode prog_23_method_7_code 1 = .ok (.iconst (-1), 1) := by decide +kernel
theorem dlf_2 : decode prog_23_method_7_code 2 = .ok (.lload_n 1, 1) := by decide +kernel
theorem dlf_3 : decode prog_23_method_7_code 3 = .ok (.lload_n 1, 1) := by decide +kernel
theorem dlf_4 : decode prog_23_method_7_code 4 = .ok (.invokevirtual 58, 3) := by decide +kernel
theorem dlf_7 : decode prog_23_method_7_code 7 = .ok (.ifCond .eq 10, 3) := by decide +kernel
theorem dlf_10 : decode prog_23_method_7_code 10 = .ok (.aload_n 0, 1) := by decide +kernel
theorem dlf_11 : decode prog_23_method_7_code 11 = .ok (.getfield 62, 3) := by decide +kernel
theorem dlf_14 : decode prog_23_method_7_code 14 = .ok (.goto 4, 3) := by decide +kernel
theorem dlf_17 : decode prog_23_method_7_code 17 = .ok (.lload_n 1, 1) := by decide +kernel
theorem dlf_18 : decode prog_23_method_7_code 18 = .ok (.lreturn, 1) := by decide +kernel
theorem own_ef16 (m : MethodId) (x0 : Addr) (x1 : Int64) : entryFrame m #[(.ref x0), (.long x1)] 3 = mkF m 0 #[.val (.ref x0), .val (.long x1), .second] [] := by first | (simp [entryFrame, mkF, argsToLocals, Value.category, maxLocals]; done) | rfl
def Qrmlf (Z : State) (so : Addr) (lw : Int64) (A B : Int32) (e N : Nat) (rc lo : Int32) (ga : Int64) (h0 : Heap) (n0 : Nat) : Option Value → Heap → List Loc → Prop := fun v h L => ∃ (res gaN : Int64) (r : Int32), v = some (.long res) ∧ Fr n0 L ∧ own_Sg Z h n0 so A B e N rc (-1 : Int32) gaN ∧ own_G A B e N lw r gaN ∧ ((r = 0 ∧ res = lw) ∨ (r ≠ 0 ∧ res = gaN))
set_option maxRecDepth 65536 in
set_option maxHeartbeats 40000000 in
theorem rmlf (l : Launch) (Z : State) (a0 : Array Value) (hw : ∀ d ∈ tables_1, d.before a0 Z = true) (ws : List Jvm.Cond) (so : Addr) (lw : Int64) (A B : Int32) (e N : Nat) (rc lo : Int32) (ga : Int64) (h0 : Heap) (n0 : Nat) (Z0 : n0 ≤ h0.size) (S : own_Sg Z h0 n0 so A B e N rc lo ga) :
    MetFree l (⟨"com/example/binflow/binflow/solve/SubsetSums", "leastFrom", "(J)J"⟩ : MethodName) (head1 (Jvm.Cond.code (⟨"com/example/binflow/binflow/solve/SubsetSums", "leastFrom", "(J)J"⟩ : MethodName) prog_23_method_7_code 3 (some .long) :: ws) ({ frames := 7, cells := 0, slots := 0, locals := 118 } : Room)) (fun a U => a = #[(.ref so), (.long lw)] ∧ Z.Warmed39 U.vm ∧ U.heap = h0) (fun _ _ _ _ _ => True) (fun _ U o U' => ∃ v L, o = .returned v ∧ (Qrmlf Z so lw A B e N rc lo ga h0 n0) v U'.heap L ∧ FrameEnd U o U' L ({ frames := 7, cells := 0, slots := 0, locals := 118 } : Room).cells ({ frames := 7, cells := 0, slots := 0, locals := 118 } : Room).slots) := by
  refine MetFree.of_bodySF own_pn11 hisR ?_
  intro p ev s m args below meth c s₁ Bd hml0 hP hK
  obtain ⟨rfl, hZ, hh⟩ := hP
  have hx := Bd.exec
  have hby := Bd.bytes
  have hlk := Bd.notSynchronized
  have hml : c.maxLocals = 3 := hml0
  have hown : s.vm.findClass "com/example/binflow/binflow/solve/SubsetSums" = some m.cls := findClass_of_methodNamed Bd.named
  have hnm := (name_of_methodNamed Bd.named Bd.method).1
  have X0 : Stand p l ev ({ frames := 7, cells := 0, slots := 0, locals := 118 } : Room) s m #[(.ref so), (.long lw)] below meth c s₁ [] 0 0 := Stand.of_body Bd
  have e0 : s₁.heap = h0 := by rw [← hh, Bd.state]; rfl
  have N0 := Fr.nil n0
  refine Rch.entry (G := (EndQ (Qrmlf Z so lw A B e N rc lo ga h0 n0) s ({ frames := 7, cells := 0, slots := 0, locals := 118 } : Room).cells ({ frames := 7, cells := 0, slots := 0, locals := 118 } : Room).slots)) (own_ef16 m so lw) ?_
  show Rch p ev below _ s₁ (mkF m 0 #[.val (.ref so), .val (.long lw), .second] [])
  refine Rch.go (fun _ q => XS.aloadN X0.here hx rfl (hb hby dlf_0) rfl rfl q) ?_
  show Rch p ev below _ s₁ (mkF m 1 #[.val (.ref so), .val (.long lw), .second] [(.ref so)])
  refine Rch.go (fun _ q => XS.iconst X0.here hx rfl (hb hby dlf_1) q) ?_
  show Rch p ev below _ s₁ (mkF m 2 #[.val (.ref so), .val (.long lw), .second] [(.int (-1 : Int32)), (.ref so)])
  refine Rch.go (fun _ q => XS.lloadN X0.here hx rfl (hb hby dlf_2) rfl  q) ?_
  show Rch p ev below _ s₁ (mkF m 3 #[.val (.ref so), .val (.long lw), .second] [(.long lw), (.int (-1 : Int32)), (.ref so)])
  refine Rch.go (fun _ q => XS.lloadN X0.here hx rfl (hb hby dlf_3) rfl  q) ?_
  show Rch p ev below _ s₁ (mkF m 4 #[.val (.ref so), .val (.long lw), .second] [(.long lw), (.long lw), (.int (-1 : Int32)), (.ref so)])
  obtain ⟨cq101, q101, q101'⟩ := Exa.cell (own_Sg_exa S)
  obtain ⟨_, _, ⟨T101, L101, k101, n101⟩, -, X101, ⟨Lc101, hQ101, l101, y101, z101⟩, st101⟩ := X0.privateBack hx (y := (⟨"com/example/binflow/binflow/solve/SubsetSums", "gap", "(IJJ)Z"⟩ : MethodName)) hown (mvT hZ (hw _ (List.mem_of_getElem? (i := 58) rfl))) (mvT hZ (hw _ (List.mem_of_getElem? (i := 59) rfl))) (mvT hZ (own_sel (by decide) (hw _ (List.mem_of_getElem? (i := 8) rfl)) (hw _ (List.mem_of_getElem? (i := 60) rfl)) (hw _ (List.mem_of_getElem? (i := 59) rfl)))) (Cond.privateMethod_at (mvP hZ (hw _ (List.mem_of_getElem? (i := 60) rfl)) (args := #[]))) (mvT hZ (hw _ (List.mem_of_getElem? (i := 61) rfl))) (by decide) (backOf (W := 0) (rmga l Z a0 hw [] so lw A B e N rc lo ga h0 n0 Z0 S) hZ (hw _ (List.mem_of_getElem? (i := 61) rfl)) (hw _ (List.mem_of_getElem? (i := 9) rfl)) (by decide) (by decide)) (g := (mkF m 4 #[.val (.ref so), .val (.long lw), .second] [(.long lw), (.long lw), (.int (-1 : Int32)), (.ref so)])) rfl (by rw [hml]; rfl) (Steps.refl _) (a := so) (by rw [e0]; exact q101) q101' (argsL := [(.int (-1 : Int32)), (.long lw), (.long lw)]) (rest := []) (lenOf own_pd6 rfl) rfl (by show 2 * 0 + _ ≤ _; exact Nat.le_of_eq rfl) (hb hby dlf_4) (fun _ _ => ⟨rfl, e0, (by decide : 0 + 0 ≤ _), (by decide : 0 + 0 ≤ _)⟩)
  dsimp only [Pt.U, Pt.locs, Pt.cells, Pt.slots] at X101 l101 y101 z101 st101 hQ101
  subst l101 y101 z101
  obtain ⟨rr, gaN, rfl, Nc, Sc, hG⟩ := hQ101
  refine Rch.jump st101 ?_
  show Rch p ev below _ T101 (mkF m 7 #[.val (.ref so), .val (.long lw), .second] [(.int rr)])
  have N101 := Fr.app N0 Nc
  by_cases hc7 : rr = (0 : Int32)
  · skip
    refine Rch.go (fun _ q => XS.ifYes X101.here hx rfl (pc0 := 7) (pc' := 17) rfl (hb hby dlf_7) rfl ((if0 _ _).trans (teq hc7).1) (by decide) (by decide) q) ?_
    show Rch p ev below _ T101 (mkF m 17 #[.val (.ref so), .val (.long lw), .second] [])
    refine Rch.go (fun _ q => XS.lloadN X101.here hx rfl (hb hby dlf_17) rfl  q) ?_
    show Rch p ev below _ T101 (mkF m 18 #[.val (.ref so), .val (.long lw), .second] [(.long lw)])
    refine Rch.retJ X101 hx hlk Bd.returns (hb hby dlf_18) (by decide) (by decide) ?_
    unfold Qrmlf
    exact ⟨_, gaN, rr, rfl, N101, Sc, hG, Or.inl ⟨hc7, rfl⟩⟩
  · skip
    refine Rch.go (fun _ q => XS.ifNo X101.here hx rfl (hb hby dlf_7) rfl ((if0 _ _).trans (feq hc7).1) q) ?_
    show Rch p ev below _ T101 (mkF m 10 #[.val (.ref so), .val (.long lw), .second] [])
    refine Rch.go (fun _ q => XS.aloadN X101.here hx rfl (hb hby dlf_10) rfl rfl q) ?_
    show Rch p ev below _ T101 (mkF m 11 #[.val (.ref so), .val (.long lw), .second] [(.ref so)])
    obtain ⟨fc, bc, S1⟩ := id Sc
    obtain ⟨rs, rt, fs, bs, kr, kt, kf, kb, rl, tl, fl, bl, zl, fr, br, los, sm, gb, WW, Is, If, Ib⟩ := S1
    obtain ⟨hA, hB, he1, heN, hN8, hrc, r0, r1, t0, t1, zN, z16, hsm, hrl2, htl2⟩ := id Is
    have hfcN := If.1
    have hbcN := Ib.1
    obtain ⟨T102, X102, e102, st102⟩ := getF X101 hx hZ hown (host := "") (Or.inl (hw _ (List.mem_of_getElem? (i := 100) rfl))) Via.refl rfl (WW.2.1 14 _ _ _ rfl rfl) (g := (mkF m 11 #[.val (.ref so), .val (.long lw), .second] [(.ref so)])) rfl rfl (hb hby dlf_11)
    refine Rch.go st102 ?_
    show Rch p ev below _ T102 (mkF m 14 #[.val (.ref so), .val (.long lw), .second] [(.long gaN)])
    refine Rch.go (fun _ q => XS.goto X102.here hx rfl (pc0 := 14) (pc' := 18) rfl (hb hby dlf_14) (by decide) (by decide) q) ?_
    show Rch p ev below _ T102 (mkF m 18 #[.val (.ref so), .val (.long lw), .second] [(.long gaN)])
    refine Rch.retJ X102 hx hlk Bd.returns (hb hby dlf_18) (by decide) (by decide) ?_
    unfold Qrmlf
    exact ⟨_, gaN, rr, rfl, N101, (by rw [e102]; exact Sc), hG, Or.inr ⟨hc7, rfl⟩⟩
theorem own_pn12 : plainFor (⟨"com/example/binflow/binflow/solve/SubsetSums", "clear", "()V"⟩ : MethodName) = true := by first | exact plainFor_of_name (by first | (simp [plainName, overriddenIn]; done) | decide +kernel) | decide +kernel
theorem own_pd8 : parseMethodDescriptor "()V" = some ⟨[], none⟩ := by decide +kernel
theorem dcl_0 : decode prog_23_method_2_code 0 = .ok (.aload_n 0, 1) := by decide +kernel
theorem dcl_1 : decode prog_23_method_2_code 1 = .ok (.iconst 0, 1) := by decide +kernel
theorem dcl_2 : decode prog_23_method_2_code 2 = .ok (.putfield 23, 3) := by decide +kernel
theorem dcl_5 : decode prog_23_method_2_code 5 = .ok (.aload_n 0, 1) := by decide +kernel
theorem dcl_6 : decode prog_23_method_2_code 6 = .ok (.iconst 0, 1) := by decide +kernel
theorem dcl_7 : decode prog_23_method_2_code 7 = .ok (.putfield 27, 3) := by decide +kernel
theorem dcl_10 : decode prog_23_method_2_code 10 = .ok (.aload_n 0, 1) := by decide +kernel
theorem dcl_11 : decode prog_23_method_2_code 11 = .ok (.lconst 0, 1) := by decide +kernel
theorem dcl_12 : decode prog_23_method_2_code 12 = .ok (.putfield 30, 3) := by decide +kernel
theorem dcl_15 : decode prog_23_method_2_code 15 = .ok (.aload_n 0, 1) := by decide +kernel
theorem dcl_16 : decode prog_23_method_2_code 16 = .ok (.iconst 0, 1) := by decide +kernel
theorem dcl_17 : decode prog_23_method_2_code 17 = .ok (.putfield 34, 3) := by decide +kernel
theorem dcl_20 : decode prog_23_method_2_code 20 = .ok (.aload_n 0, 1) := by decide +kernel
theorem dcl_21 : decode prog_23_method_2_code 21 = .ok (.iconst 0, 1) := by decide +kernel
theorem dcl_22 : decode prog_23_method_2_code 22 = .ok (.putfield 37, 3) := by decide +kernel
theorem dcl_25 : decode prog_23_method_2_code 25 = .ok (.aload_n 0, 1) := by decide +kernel
theorem dcl_26 : decode prog_23_method_2_code 26 = .ok (.iconst 0, 1) := by decide +kernel
theorem dcl_27 : decode prog_23_method_2_code 27 = .ok (.putfield 40, 3) := by decide +kernel
theorem dcl_30 : decode prog_23_method_2_code 30 = .ok (.return_, 1) := by decide +kernel
theorem own_ef17 (m : MethodId) (x0 : Addr) : entryFrame m #[(.ref x0)] 1 = mkF m 0 #[.val (.ref x0)] [] := by first | (simp [entryFrame, mkF, argsToLocals, Value.category, maxLocals]; done) | rfl
def Qrmcl (Z : State) (so : Addr) (rs rt fs bs : Addr) (kr kt kf kb : ClassId) (rl tl fl bl : List Value) (zl rc ct fc fr bc br los lo : Int32) (sm gb ga : Int64) (h0 : Heap) (n0 : Nat) : Option Value → Heap → List Loc → Prop := fun v h L => v = none ∧ Fr n0 L ∧ own_W Z h n0 so rs rt fs bs kr kt kf kb rl tl fl bl zl [.ref rs, .ref rt, .int 0, .int 0, .long 0, .ref fs, .int 0, .int 0, .ref bs, .int 0, .int br, .int los, .int lo, .long gb, .long ga]
set_option maxRecDepth 65536 in
set_option maxHeartbeats 40000000 in
theorem rmcl (l : Launch) (Z : State) (a0 : Array Value) (hw : ∀ d ∈ tables_1, d.before a0 Z = true) (ws : List Jvm.Cond) (so : Addr) (rs rt fs bs : Addr) (kr kt kf kb : ClassId) (rl tl fl bl : List Value) (zl rc ct fc fr bc br los lo : Int32) (sm gb ga : Int64) (h0 : Heap) (n0 : Nat) (Z0 : n0 ≤ h0.size) (WW : own_W Z h0 n0 so rs rt fs bs kr kt kf kb rl tl fl bl zl [(.ref rs), (.ref rt), (.int rc), (.int ct), (.long sm), (.ref fs), (.int fc), (.int fr), (.ref bs), (.int bc), (.int br), (.int los), (.int lo), (.long gb), (.long ga)]) :
    MetFree l (⟨"com/example/binflow/binflow/solve/SubsetSums", "clear", "()V"⟩ : MethodName) (head1 (Jvm.Cond.code (⟨"com/example/binflow/binflow/solve/SubsetSums", "clear", "()V"⟩ : MethodName) prog_23_method_2_code 1 none :: ws) ({ frames := 0, cells := 0, slots := 0, locals := 0 } : Room)) (fun a U => a = #[(.ref so)] ∧ Z.Warmed39 U.vm ∧ U.heap = h0) (fun _ _ _ _ _ => True) (fun _ U o U' => ∃ v L, o = .returned v ∧ (Qrmcl Z so rs rt fs bs kr kt kf kb rl tl fl bl zl rc ct fc fr bc br los lo sm gb ga h0 n0) v U'.heap L ∧ FrameEnd U o U' L ({ frames := 0, cells := 0, slots := 0, locals := 0 } : Room).cells ({ frames := 0, cells := 0, slots := 0, locals := 0 } : Room).slots) := by
  refine MetFree.of_bodySF own_pn12 hisR ?_
  intro p ev s m args below meth c s₁ Bd hml0 hP hK
  obtain ⟨rfl, hZ, hh⟩ := hP
  have hx := Bd.exec
  have hby := Bd.bytes
  have hlk := Bd.notSynchronized
  have hml : c.maxLocals = 1 := hml0
  have hown : s.vm.findClass "com/example/binflow/binflow/solve/SubsetSums" = some m.cls := findClass_of_methodNamed Bd.named
  have hnm := (name_of_methodNamed Bd.named Bd.method).1
  have X0 : Stand p l ev ({ frames := 0, cells := 0, slots := 0, locals := 0 } : Room) s m #[(.ref so)] below meth c s₁ [] 0 0 := Stand.of_body Bd
  have e0 : s₁.heap = h0 := by rw [← hh, Bd.state]; rfl
  have N0 := Fr.nil n0
  refine Rch.entry (G := (EndQ (Qrmcl Z so rs rt fs bs kr kt kf kb rl tl fl bl zl rc ct fc fr bc br los lo sm gb ga h0 n0) s ({ frames := 0, cells := 0, slots := 0, locals := 0 } : Room).cells ({ frames := 0, cells := 0, slots := 0, locals := 0 } : Room).slots)) (own_ef17 m so) ?_
  show Rch p ev below _ s₁ (mkF m 0 #[.val (.ref so)] [])
  refine Rch.go (fun _ q => XS.aloadN X0.here hx rfl (hb hby dcl_0) rfl rfl q) ?_
  show Rch p ev below _ s₁ (mkF m 1 #[.val (.ref so)] [(.ref so)])
  refine Rch.go (fun _ q => XS.iconst X0.here hx rfl (hb hby dcl_1) q) ?_
  show Rch p ev below _ s₁ (mkF m 2 #[.val (.ref so)] [(.int (0 : Int32)), (.ref so)])
  obtain ⟨T101, h101, X101, e101, W101, st101⟩ := putF X0 hx hZ hown (host := "") (Or.inl (hw _ (List.mem_of_getElem? (i := 31) rfl))) Via.refl e0 (WW.2.1 2 _ _ _ rfl rfl) WW.1 (Or.inl (hw _ (List.mem_of_getElem? (i := 32) rfl))) (hw _ (List.mem_of_getElem? (i := 8) rfl)) (ty := .int) (by decide) rfl rfl (g := (mkF m 2 #[.val (.ref so)] [(.int (0 : Int32)), (.ref so)])) rfl rfl (hb hby dcl_2)
  have N101 := Fr.snoc X101 N0 WW.2.2.2.2.2.2.1.1
  have Z101 : n0 ≤ h101.size := by rw [W101.size]; exact Z0
  refine Rch.go st101 ?_
  show Rch p ev below _ T101 (mkF m 5 #[.val (.ref so)] [])
  have WW101 : own_W Z h101 n0 so rs rt fs bs kr kt kf kb rl tl fl bl zl [(.ref rs), (.ref rt), (.int (0 : Int32)), (.int ct), (.long sm), (.ref fs), (.int fc), (.int fr), (.ref bs), (.int bc), (.int br), (.int los), (.int lo), (.long gb), (.long ga)] := own_W_put hw WW 2 rfl W101
  refine Rch.go (fun _ q => XS.aloadN X101.here hx rfl (hb hby dcl_5) rfl rfl q) ?_
  show Rch p ev below _ T101 (mkF m 6 #[.val (.ref so)] [(.ref so)])
  refine Rch.go (fun _ q => XS.iconst X101.here hx rfl (hb hby dcl_6) q) ?_
  show Rch p ev below _ T101 (mkF m 7 #[.val (.ref so)] [(.int (0 : Int32)), (.ref so)])
  obtain ⟨T102, h102, X102, e102, W102, st102⟩ := putF X101 hx hZ hown (host := "") (Or.inl (hw _ (List.mem_of_getElem? (i := 33) rfl))) Via.refl e101 (WW101.2.1 3 _ _ _ rfl rfl) WW101.1 (Or.inl (hw _ (List.mem_of_getElem? (i := 34) rfl))) (hw _ (List.mem_of_getElem? (i := 8) rfl)) (ty := .int) (by decide) rfl rfl (g := (mkF m 7 #[.val (.ref so)] [(.int (0 : Int32)), (.ref so)])) rfl rfl (hb hby dcl_7)
  have N102 := Fr.snoc X102 N101 WW101.2.2.2.2.2.2.1.1
  have Z102 : n0 ≤ h102.size := by rw [W102.size]; exact WW101.2.2.2.2.2.2.1.2.2.2.2.2
  refine Rch.go st102 ?_
  show Rch p ev below _ T102 (mkF m 10 #[.val (.ref so)] [])
  have WW102 : own_W Z h102 n0 so rs rt fs bs kr kt kf kb rl tl fl bl zl [(.ref rs), (.ref rt), (.int (0 : Int32)), (.int (0 : Int32)), (.long sm), (.ref fs), (.int fc), (.int fr), (.ref bs), (.int bc), (.int br), (.int los), (.int lo), (.long gb), (.long ga)] := own_W_put hw WW101 3 rfl W102
  refine Rch.go (fun _ q => XS.aloadN X102.here hx rfl (hb hby dcl_10) rfl rfl q) ?_
  show Rch p ev below _ T102 (mkF m 11 #[.val (.ref so)] [(.ref so)])
  refine Rch.go (fun _ q => XS.lconst X102.here hx rfl (hb hby dcl_11) q) ?_
  show Rch p ev below _ T102 (mkF m 12 #[.val (.ref so)] [(.long (0 : Int64)), (.ref so)])
  obtain ⟨T103, h103, X103, e103, W103, st103⟩ := putF X102 hx hZ hown (host := "") (Or.inl (hw _ (List.mem_of_getElem? (i := 35) rfl))) Via.refl e102 (WW102.2.1 4 _ _ _ rfl rfl) WW102.1 (Or.inl (hw _ (List.mem_of_getElem? (i := 36) rfl))) (hw _ (List.mem_of_getElem? (i := 8) rfl)) (ty := .long) (by decide) rfl rfl (g := (mkF m 12 #[.val (.ref so)] [(.long (0 : Int64)), (.ref so)])) rfl rfl (hb hby dcl_12)
  have N103 := Fr.snoc X103 N102 WW102.2.2.2.2.2.2.1.1
  have Z103 : n0 ≤ h103.size := by rw [W103.size]; exact WW102.2.2.2.2.2.2.1.2.2.2.2.2
  refine Rch.go st103 ?_
  show Rch p ev below _ T103 (mkF m 15 #[.val (.ref so)] [])
  have WW103 : own_W Z h103 n0 so rs rt fs bs kr kt kf kb rl tl fl bl zl [(.ref rs), (.ref rt), (.int (0 : Int32)), (.int (0 : Int32)), (.long (0 : Int64)), (.ref fs), (.int fc), (.int fr), (.ref bs), (.int bc), (.int br), (.int los), (.int lo), (.long gb), (.long ga)] := own_W_put hw WW102 4 rfl W103
  refine Rch.go (fun _ q => XS.aloadN X103.here hx rfl (hb hby dcl_15) rfl rfl q) ?_
  show Rch p ev below _ T103 (mkF m 16 #[.val (.ref so)] [(.ref so)])
  refine Rch.go (fun _ q => XS.iconst X103.here hx rfl (hb hby dcl_16) q) ?_
  show Rch p ev below _ T103 (mkF m 17 #[.val (.ref so)] [(.int (0 : Int32)), (.ref so)])
  obtain ⟨T104, h104, X104, e104, W104, st104⟩ := putF X103 hx hZ hown (host := "") (Or.inl (hw _ (List.mem_of_getElem? (i := 74) rfl))) Via.refl e103 (WW103.2.1 6 _ _ _ rfl rfl) WW103.1 (Or.inl (hw _ (List.mem_of_getElem? (i := 75) rfl))) (hw _ (List.mem_of_getElem? (i := 8) rfl)) (ty := .int) (by decide) rfl rfl (g := (mkF m 17 #[.val (.ref so)] [(.int (0 : Int32)), (.ref so)])) rfl rfl (hb hby dcl_17)
  have N104 := Fr.snoc X104 N103 WW103.2.2.2.2.2.2.1.1
  have Z104 : n0 ≤ h104.size := by rw [W104.size]; exact WW103.2.2.2.2.2.2.1.2.2.2.2.2
  refine Rch.go st104 ?_
  show Rch p ev below _ T104 (mkF m 20 #[.val (.ref so)] [])
  have WW104 : own_W Z h104 n0 so rs rt fs bs kr kt kf kb rl tl fl bl zl [(.ref rs), (.ref rt), (.int (0 : Int32)), (.int (0 : Int32)), (.long (0 : Int64)), (.ref fs), (.int (0 : Int32)), (.int fr), (.ref bs), (.int bc), (.int br), (.int los), (.int lo), (.long gb), (.long ga)] := own_W_put hw WW103 6 rfl W104
  refine Rch.go (fun _ q => XS.aloadN X104.here hx rfl (hb hby dcl_20) rfl rfl q) ?_
  show Rch p ev below _ T104 (mkF m 21 #[.val (.ref so)] [(.ref so)])
  refine Rch.go (fun _ q => XS.iconst X104.here hx rfl (hb hby dcl_21) q) ?_
  show Rch p ev below _ T104 (mkF m 22 #[.val (.ref so)] [(.int (0 : Int32)), (.ref so)])
  obtain ⟨T105, h105, X105, e105, W105, st105⟩ := putF X104 hx hZ hown (host := "") (Or.inl (hw _ (List.mem_of_getElem? (i := 85) rfl))) Via.refl e104 (WW104.2.1 7 _ _ _ rfl rfl) WW104.1 (Or.inl (hw _ (List.mem_of_getElem? (i := 86) rfl))) (hw _ (List.mem_of_getElem? (i := 8) rfl)) (ty := .int) (by decide) rfl rfl (g := (mkF m 22 #[.val (.ref so)] [(.int (0 : Int32)), (.ref so)])) rfl rfl (hb hby dcl_22)
  have N105 := Fr.snoc X105 N104 WW104.2.2.2.2.2.2.1.1
  have Z105 : n0 ≤ h105.size := by rw [W105.size]; exact WW104.2.2.2.2.2.2.1.2.2.2.2.2
  refine Rch.go st105 ?_
  show Rch p ev below _ T105 (mkF m 25 #[.val (.ref so)] [])
  have WW105 : own_W Z h105 n0 so rs rt fs bs kr kt kf kb rl tl fl bl zl [(.ref rs), (.ref rt), (.int (0 : Int32)), (.int (0 : Int32)), (.long (0 : Int64)), (.ref fs), (.int (0 : Int32)), (.int (0 : Int32)), (.ref bs), (.int bc), (.int br), (.int los), (.int lo), (.long gb), (.long ga)] := own_W_put hw WW104 7 rfl W105
  refine Rch.go (fun _ q => XS.aloadN X105.here hx rfl (hb hby dcl_25) rfl rfl q) ?_
  show Rch p ev below _ T105 (mkF m 26 #[.val (.ref so)] [(.ref so)])
  refine Rch.go (fun _ q => XS.iconst X105.here hx rfl (hb hby dcl_26) q) ?_
  show Rch p ev below _ T105 (mkF m 27 #[.val (.ref so)] [(.int (0 : Int32)), (.ref so)])
  obtain ⟨T106, h106, X106, e106, W106, st106⟩ := putF X105 hx hZ hown (host := "") (Or.inl (hw _ (List.mem_of_getElem? (i := 37) rfl))) Via.refl e105 (WW105.2.1 9 _ _ _ rfl rfl) WW105.1 (Or.inl (hw _ (List.mem_of_getElem? (i := 38) rfl))) (hw _ (List.mem_of_getElem? (i := 8) rfl)) (ty := .int) (by decide) rfl rfl (g := (mkF m 27 #[.val (.ref so)] [(.int (0 : Int32)), (.ref so)])) rfl rfl (hb hby dcl_27)
  have N106 := Fr.snoc X106 N105 WW105.2.2.2.2.2.2.1.1
  have Z106 : n0 ≤ h106.size := by rw [W106.size]; exact WW105.2.2.2.2.2.2.1.2.2.2.2.2
  refine Rch.go st106 ?_
  show Rch p ev below _ T106 (mkF m 30 #[.val (.ref so)] [])
  have WW106 : own_W Z h106 n0 so rs rt fs bs kr kt kf kb rl tl fl bl zl [(.ref rs), (.ref rt), (.int (0 : Int32)), (.int (0 : Int32)), (.long (0 : Int64)), (.ref fs), (.int (0 : Int32)), (.int (0 : Int32)), (.ref bs), (.int (0 : Int32)), (.int br), (.int los), (.int lo), (.long gb), (.long ga)] := own_W_put hw WW105 9 rfl W106
  refine Rch.retV X106 hx hlk Bd.returns (hb hby dcl_30) (by decide) (by decide) ?_
  unfold Qrmcl
  rw [e106]
  exact ⟨rfl, N106, WW106⟩
theorem own_pn13 : plainFor (⟨"com/example/binflow/binflow/solve/SubsetSums", "runCount", "()I"⟩ : MethodName) = true := by first | exact plainFor_of_name (by first | (simp [plainName, overriddenIn]; done) | decide +kernel) | decide +kernel
theorem own_pd9 : parseMethodDescriptor "()I" = some ⟨[], some .int⟩ := by decide +kernel
theorem drc_0 : decode prog_23_method_4_code 0 = .ok (.aload_n 0, 1) := by decide +kernel
theorem drc_1 : decode prog_23_method_4_code 1 = .ok (.getfield 23, 3) := by decide +kernel
theorem drc_4 : decode prog_23_method_4_code 4 = .ok (.ireturn, 1) := by decide +kernel
theorem own_ef18 (m : MethodId) (x0 : Addr) : entryFrame m #[(.ref x0)] 1 = mkF m 0 #[.val (.ref x0)] [] := by first | (simp [entryFrame, mkF, argsToLocals, Value.category, maxLocals]; done) | rfl
def Qrmrc (Z : State) (so : Addr) (rs rt fs bs : Addr) (kr kt kf kb : ClassId) (rl tl fl bl : List Value) (zl rc ct fc fr bc br los lo : Int32) (sm gb ga : Int64) (h0 : Heap) (n0 : Nat) : Option Value → Heap → List Loc → Prop := fun v h L => v = some (.int rc) ∧ Fr n0 L ∧ h = h0
set_option maxRecDepth 65536 in
set_option maxHeartbeats 40000000 in
theorem rmrc (l : Launch) (Z : State) (a0 : Array Value) (hw : ∀ d ∈ tables_1, d.before a0 Z = true) (ws : List Jvm.Cond) (so : Addr) (rs rt fs bs : Addr) (kr kt kf kb : ClassId) (rl tl fl bl : List Value) (zl rc ct fc fr bc br los lo : Int32) (sm gb ga : Int64) (h0 : Heap) (n0 : Nat) (Z0 : n0 ≤ h0.size) (WW : own_W Z h0 n0 so rs rt fs bs kr kt kf kb rl tl fl bl zl [(.ref rs), (.ref rt), (.int rc), (.int ct), (.long sm), (.ref fs), (.int fc), (.int fr), (.ref bs), (.int bc), (.int br), (.int los), (.int lo), (.long gb), (.long ga)]) :
    MetFree l (⟨"com/example/binflow/binflow/solve/SubsetSums", "runCount", "()I"⟩ : MethodName) (head1 (Jvm.Cond.code (⟨"com/example/binflow/binflow/solve/SubsetSums", "runCount", "()I"⟩ : MethodName) prog_23_method_4_code 1 (some .int) :: ws) ({ frames := 0, cells := 0, slots := 0, locals := 0 } : Room)) (fun a U => a = #[(.ref so)] ∧ Z.Warmed39 U.vm ∧ U.heap = h0) (fun _ _ _ _ _ => True) (fun _ U o U' => ∃ v L, o = .returned v ∧ (Qrmrc Z so rs rt fs bs kr kt kf kb rl tl fl bl zl rc ct fc fr bc br los lo sm gb ga h0 n0) v U'.heap L ∧ FrameEnd U o U' L ({ frames := 0, cells := 0, slots := 0, locals := 0 } : Room).cells ({ frames := 0, cells := 0, slots := 0, locals := 0 } : Room).slots) := by
  refine MetFree.of_bodySF own_pn13 hisR ?_
  intro p ev s m args below meth c s₁ Bd hml0 hP hK
  obtain ⟨rfl, hZ, hh⟩ := hP
  have hx := Bd.exec
  have hby := Bd.bytes
  have hlk := Bd.notSynchronized
  have hml : c.maxLocals = 1 := hml0
  have hown : s.vm.findClass "com/example/binflow/binflow/solve/SubsetSums" = some m.cls := findClass_of_methodNamed Bd.named
  have hnm := (name_of_methodNamed Bd.named Bd.method).1
  have X0 : Stand p l ev ({ frames := 0, cells := 0, slots := 0, locals := 0 } : Room) s m #[(.ref so)] below meth c s₁ [] 0 0 := Stand.of_body Bd
  have e0 : s₁.heap = h0 := by rw [← hh, Bd.state]; rfl
  have N0 := Fr.nil n0
  refine Rch.entry (G := (EndQ (Qrmrc Z so rs rt fs bs kr kt kf kb rl tl fl bl zl rc ct fc fr bc br los lo sm gb ga h0 n0) s ({ frames := 0, cells := 0, slots := 0, locals := 0 } : Room).cells ({ frames := 0, cells := 0, slots := 0, locals := 0 } : Room).slots)) (own_ef18 m so) ?_
  show Rch p ev below _ s₁ (mkF m 0 #[.val (.ref so)] [])
  refine Rch.go (fun _ q => XS.aloadN X0.here hx rfl (hb hby drc_0) rfl rfl q) ?_
  show Rch p ev below _ s₁ (mkF m 1 #[.val (.ref so)] [(.ref so)])
  obtain ⟨T101, X101, e101, st101⟩ := getF X0 hx hZ hown (host := "") (Or.inl (hw _ (List.mem_of_getElem? (i := 31) rfl))) Via.refl e0 (WW.2.1 2 _ _ _ rfl rfl) (g := (mkF m 1 #[.val (.ref so)] [(.ref so)])) rfl rfl (hb hby drc_1)
  refine Rch.go st101 ?_
  show Rch p ev below _ T101 (mkF m 4 #[.val (.ref so)] [(.int rc)])
  refine Rch.retI X101 hx hlk Bd.returns (hb hby drc_4) (by decide) (by decide) ?_
  unfold Qrmrc
  exact ⟨rfl, N0, e101⟩
theorem own_pn14 : plainFor (⟨"com/example/binflow/binflow/solve/SubsetSums", "runSize", "(I)I"⟩ : MethodName) = true := by first | exact plainFor_of_name (by first | (simp [plainName, overriddenIn]; done) | decide +kernel) | decide +kernel
theorem drz_0 : decode prog_23_method_5_code 0 = .ok (.aload_n 0, 1) := by decide +kernel
theorem drz_1 : decode prog_23_method_5_code 1 = .ok (.getfield 16, 3) := by decide +kernel
theorem drz_4 : decode prog_23_method_5_code 4 = .ok (.iload_n 1, 1) := by decide +kernel
theorem drz_5 : decode prog_23_method_5_code 5 = .ok (.iaload, 1) := by decide +kernel
theorem drz_6 : decode prog_23_method_5_code 6 = .ok (.ireturn, 1) := by decide +kernel
theorem own_ef19 (m : MethodId) (x0 : Addr) (x1 : Int32) : entryFrame m #[(.ref x0), (.int x1)] 2 = mkF m 0 #[.val (.ref x0), .val (.int x1)] [] := by first | (simp [entryFrame, mkF, argsToLocals, Value.category, maxLocals]; done) | rfl
def Qrmrz (Z : State) (so : Addr) (rs rt fs bs : Addr) (kr kt kf kb : ClassId) (rl tl fl bl : List Value) (zl rc ct fc fr bc br los lo : Int32) (sm gb ga : Int64) (xx : Int32) (h0 : Heap) (n0 : Nat) : Option Value → Heap → List Loc → Prop := fun v h L => v = some (.int xx) ∧ Fr n0 L ∧ h = h0
set_option maxRecDepth 65536 in
set_option maxHeartbeats 40000000 in
theorem rmrz (l : Launch) (Z : State) (a0 : Array Value) (hw : ∀ d ∈ tables_1, d.before a0 Z = true) (ws : List Jvm.Cond) (so : Addr) (rs rt fs bs : Addr) (kr kt kf kb : ClassId) (rl tl fl bl : List Value) (zl rc ct fc fr bc br los lo : Int32) (sm gb ga : Int64) (xx : Int32) (h0 : Heap) (n0 : Nat) (Z0 : n0 ≤ h0.size) (WW : own_W Z h0 n0 so rs rt fs bs kr kt kf kb rl tl fl bl zl [(.ref rs), (.ref rt), (.int rc), (.int ct), (.long sm), (.ref fs), (.int fc), (.int fr), (.ref bs), (.int bc), (.int br), (.int los), (.int lo), (.long gb), (.long ga)]) (hx0 : rl.getD 0 (.int 0) = .int xx) :
    MetFree l (⟨"com/example/binflow/binflow/solve/SubsetSums", "runSize", "(I)I"⟩ : MethodName) (head1 (Jvm.Cond.code (⟨"com/example/binflow/binflow/solve/SubsetSums", "runSize", "(I)I"⟩ : MethodName) prog_23_method_5_code 2 (some .int) :: ws) ({ frames := 0, cells := 0, slots := 0, locals := 0 } : Room)) (fun a U => a = #[(.ref so), (.int (0 : Int32))] ∧ Z.Warmed39 U.vm ∧ U.heap = h0) (fun _ _ _ _ _ => True) (fun _ U o U' => ∃ v L, o = .returned v ∧ (Qrmrz Z so rs rt fs bs kr kt kf kb rl tl fl bl zl rc ct fc fr bc br los lo sm gb ga xx h0 n0) v U'.heap L ∧ FrameEnd U o U' L ({ frames := 0, cells := 0, slots := 0, locals := 0 } : Room).cells ({ frames := 0, cells := 0, slots := 0, locals := 0 } : Room).slots) := by
  refine MetFree.of_bodySF own_pn14 hisR ?_
  intro p ev s m args below meth c s₁ Bd hml0 hP hK
  obtain ⟨rfl, hZ, hh⟩ := hP
  have hx := Bd.exec
  have hby := Bd.bytes
  have hlk := Bd.notSynchronized
  have hml : c.maxLocals = 2 := hml0
  have hown : s.vm.findClass "com/example/binflow/binflow/solve/SubsetSums" = some m.cls := findClass_of_methodNamed Bd.named
  have hnm := (name_of_methodNamed Bd.named Bd.method).1
  have X0 : Stand p l ev ({ frames := 0, cells := 0, slots := 0, locals := 0 } : Room) s m #[(.ref so), (.int (0 : Int32))] below meth c s₁ [] 0 0 := Stand.of_body Bd
  have e0 : s₁.heap = h0 := by rw [← hh, Bd.state]; rfl
  have N0 := Fr.nil n0
  refine Rch.entry (G := (EndQ (Qrmrz Z so rs rt fs bs kr kt kf kb rl tl fl bl zl rc ct fc fr bc br los lo sm gb ga xx h0 n0) s ({ frames := 0, cells := 0, slots := 0, locals := 0 } : Room).cells ({ frames := 0, cells := 0, slots := 0, locals := 0 } : Room).slots)) (own_ef19 m so (0 : Int32)) ?_
  show Rch p ev below _ s₁ (mkF m 0 #[.val (.ref so), .val (.int (0 : Int32))] [])
  refine Rch.go (fun _ q => XS.aloadN X0.here hx rfl (hb hby drz_0) rfl rfl q) ?_
  show Rch p ev below _ s₁ (mkF m 1 #[.val (.ref so), .val (.int (0 : Int32))] [(.ref so)])
  obtain ⟨T101, X101, e101, st101⟩ := getF X0 hx hZ hown (host := "") (Or.inl (hw _ (List.mem_of_getElem? (i := 22) rfl))) Via.refl e0 (WW.2.1 0 _ _ _ rfl rfl) (g := (mkF m 1 #[.val (.ref so), .val (.int (0 : Int32))] [(.ref so)])) rfl rfl (hb hby drz_1)
  refine Rch.go st101 ?_
  show Rch p ev below _ T101 (mkF m 4 #[.val (.ref so), .val (.int (0 : Int32))] [(.ref rs)])
  refine Rch.go (fun _ q => XS.iloadN X101.here hx rfl (hb hby drz_4) rfl  q) ?_
  show Rch p ev below _ T101 (mkF m 5 #[.val (.ref so), .val (.int (0 : Int32))] [(.int (0 : Int32)), (.ref rs)])
  refine Rch.go (fun _ q => ldI X101 hx hZ e101 WW.2.2.1 (j := (0 : Int32)) (v := (.int xx)) (by decide) hx0 (g := (mkF m 5 #[.val (.ref so), .val (.int (0 : Int32))] [(.int (0 : Int32)), (.ref rs)])) rfl rfl (hb hby drz_5) _ q) ?_
  show Rch p ev below _ T101 (mkF m 6 #[.val (.ref so), .val (.int (0 : Int32))] [(.int xx)])
  refine Rch.retI X101 hx hlk Bd.returns (hb hby drz_6) (by decide) (by decide) ?_
  unfold Qrmrz
  exact ⟨rfl, N0, e101⟩
theorem own_pn15 : plainFor (⟨"com/example/binflow/binflow/solve/SubsetSums", "add", "(II)V"⟩ : MethodName) = true := by first | exact plainFor_of_name (by first | (simp [plainName, overriddenIn]; done) | decide +kernel) | decide +kernel
theorem own_pd10 : parseMethodDescriptor "(II)V" = some ⟨[.int, .int], none⟩ := by decide +kernel
theorem dad_0 : decode prog_23_method_3_code 0 = .ok (.aload_n 0, 1) := by decide +kernel
theorem dad_1 : decode prog_23_method_3_code 1 = .ok (.getfield 16, 3) := by decide +kernel
theorem dad_4 : decode prog_23_method_3_code 4 = .ok (.aload_n 0, 1) := by decide +kernel
theorem dad_5 : decode prog_23_method_3_code 5 = .ok (.getfield 23, 3) := by decide +kernel
theorem dad_8 : decode prog_23_method_3_code 8 = .ok (.iload_n 1, 1) := by decide +kernel
theorem dad_9 : decode prog_23_method_3_code 9 = .ok (.iastore, 1) := by decide +kernel
theorem dad_10 : decode prog_23_method_3_code 10 = .ok (.aload_n 0, 1) := by decide +kernel
theorem dad_11 : decode prog_23_method_3_code 11 = .ok (.getfield 20, 3) := by decide +kernel
theorem dad_14 : decode prog_23_method_3_code 14 = .ok (.aload_n 0, 1) := by decide +kernel
theorem dad_15 : decode prog_23_method_3_code 15 = .ok (.getfield 23, 3) := by decide +kernel
theorem dad_18 : decode prog_23_method_3_code 18 = .ok (.aload_n 0, 1) := by decide +kernel
theorem dad_19 : decode prog_23_method_3_code 19 = .ok (.getfield 27, 3) := by decide +kernel
theorem dad_22 : decode prog_23_method_3_code 22 = .ok (.iastore, 1) := by decide +kernel
theorem dad_23 : decode prog_23_method_3_code 23 = .ok (.aload_n 0, 1) := by decide +kernel
theorem dad_24 : decode prog_23_method_3_code 24 = .ok (.dup, 1) := by decide +kernel
theorem dad_25 : decode prog_23_method_3_code 25 = .ok (.getfield 23, 3) := by decide +kernel
theorem dad_28 : decode prog_23_method_3_code 28 = .ok (.iconst 1, 1) := by decide +kernel
theorem dad_29 : decode prog_23_method_3_code 29 = .ok (.iadd, 1) := by decide +kernel
theorem dad_30 : decode prog_23_method_3_code 30 = .ok (.putfield 23, 3) := by decide +kernel
theorem dad_33 : decode prog_23_method_3_code 33 = .ok (.aload_n 0, 1) := by decide +kernel
theorem dad_34 : decode prog_23_method_3_code 34 = .ok (.dup, 1) := by decide +kernel
theorem dad_35 : decode prog_23_method_3_code 35 = .ok (.getfield 27, 3) := by decide +kernel
theorem dad_38 : decode prog_23_method_3_code 38 = .ok (.iload_n 2, 1) := by decide +kernel
theorem dad_39 : decode prog_23_method_3_code 39 = .ok (.iadd, 1) := by decide +kernel
theorem dad_40 : decode prog_23_method_3_code 40 = .ok (.putfield 27, 3) := by decide +kernel
theorem dad_43 : decode prog_23_method_3_code 43 = .ok (.aload_n 0, 1) := by decide +kernel
theorem dad_44 : decode prog_23_method_3_code 44 = .ok (.dup, 1) := by decide +kernel
theorem dad_45 : decode prog_23_method_3_code 45 = .ok (.getfield 30, 3) := by decide +kernel
theorem dad_48 : decode prog_23_method_3_code 48 = .ok (.iload_n 1, 1) := by decide +kernel
theorem dad_49 : decode prog_23_method_3_code 49 = .ok (.i2l, 1) := by decide +kernel
theorem dad_50 : decode prog_23_method_3_code 50 = .ok (.iload_n 2, 1) := by decide +kernel
theorem dad_51 : decode prog_23_method_3_code 51 = .ok (.i2l, 1) := by decide +kernel
theorem dad_52 : decode prog_23_method_3_code 52 = .ok (.lmul, 1) := by decide +kernel
theorem dad_53 : decode prog_23_method_3_code 53 = .ok (.ladd, 1) := by decide +kernel
theorem dad_54 : decode prog_23_method_3_code 54 = .ok (.putfield 30, 3) := by decide +kernel
theorem dad_57 : decode prog_23_method_3_code 57 = .ok (.aload_n 0, 1) := by decide +kernel
theorem dad_58 : decode prog_23_method_3_code 58 = .ok (.iconst 0, 1) := by decide +kernel
theorem dad_59 : decode prog_23_method_3_code 59 = .ok (.putfield 40, 3) := by decide +kernel
theorem dad_62 : decode prog_23_method_3_code 62 = .ok (.aload_n 0, 1) := by decide +kernel
theorem dad_63 : decode prog_23_method_3_code 63 = .ok (.aload_n 0, 1) := by decide +kernel
theorem dad_64 : decode prog_23_method_3_code 64 = .ok (.getfield 23, 3) := by decide +kernel
theorem dad_67 : decode prog_23_method_3_code 67 = .ok (.iconst 1, 1) := by decide +kernel
theorem dad_68 : decode prog_23_method_3_code 68 = .ok (.isub, 1) := by decide +kernel
theorem dad_69 : decode prog_23_method_3_code 69 = .ok (.putfield 43, 3) := by decide +kernel
theorem dad_72 : decode prog_23_method_3_code 72 = .ok (.aload_n 0, 1) := by decide +kernel
theorem dad_73 : decode prog_23_method_3_code 73 = .ok (.getfield 27, 3) := by decide +kernel
theorem dad_76 : decode prog_23_method_3_code 76 = .ok (.aload_n 0, 1) := by decide +kernel
theorem dad_77 : decode prog_23_method_3_code 77 = .ok (.getfield 7, 3) := by decide +kernel
theorem dad_80 : decode prog_23_method_3_code 80 = .ok (.arraylength, 1) := by decide +kernel
theorem dad_81 : decode prog_23_method_3_code 81 = .ok (.if_icmp .lt 44, 3) := by decide +kernel
theorem dad_84 : decode prog_23_method_3_code 84 = .ok (.aload_n 0, 1) := by decide +kernel
theorem dad_85 : decode prog_23_method_3_code 85 = .ok (.getfield 27, 3) := by decide +kernel
theorem dad_88 : decode prog_23_method_3_code 88 = .ok (.iconst 1, 1) := by decide +kernel
theorem dad_89 : decode prog_23_method_3_code 89 = .ok (.iadd, 1) := by decide +kernel
theorem dad_90 : decode prog_23_method_3_code 90 = .ok (.iconst 2, 1) := by decide +kernel
theorem dad_91 : decode prog_23_method_3_code 91 = .ok (.aload_n 0, 1) := by decide +kernel
theorem dad_92 : decode prog_23_method_3_code 92 = .ok (.getfield 7, 3) := by decide +kernel
theorem dad_95 : decode prog_23_method_3_code 95 = .ok (.arraylength, 1) := by decide +kernel
theorem dad_96 : decode prog_23_method_3_code 96 = .ok (.imul, 1) := by decide +kernel
theorem dad_97 : decode prog_23_method_3_code 97 = .ok (.invokestatic 46, 3) := by decide +kernel
theorem dad_100 : decode prog_23_method_3_code 100 = .ok (.istore_n 3, 1) := by decide +kernel
theorem dad_101 : decode prog_23_method_3_code 101 = .ok (.aload_n 0, 1) := by decide +kernel
theorem dad_102 : decode prog_23_method_3_code 102 = .ok (.aload_n 0, 1) := by decide +kernel
theorem dad_103 : decode prog_23_method_3_code 103 = .ok (.getfield 7, 3) := by decide +kernel
theorem dad_106 : decode prog_23_method_3_code 106 = .ok (.iload_n 3, 1) := by decide +kernel
theorem dad_107 : decode prog_23_method_3_code 107 = .ok (.invokestatic 52, 3) := by decide +kernel
theorem dad_110 : decode prog_23_method_3_code 110 = .ok (.putfield 7, 3) := by decide +kernel
theorem dad_113 : decode prog_23_method_3_code 113 = .ok (.aload_n 0, 1) := by decide +kernel
theorem dad_114 : decode prog_23_method_3_code 114 = .ok (.aload_n 0, 1) := by decide +kernel
theorem dad_115 : decode prog_23_method_3_code 115 = .ok (.getfield 13, 3) := by decide +kernel
theorem dad_118 : decode prog_23_method_3_code 118 = .ok (.iload_n 3, 1) := by decide +kernel
theorem dad_119 : decode prog_23_method_3_code 119 = .ok (.invokestatic 52, 3) := by decide +kernel
theorem dad_122 : decode prog_23_method_3_code 122 = .ok (.putfield 13, 3) := by decide +kernel
theorem dad_125 : decode prog_23_method_3_code 125 = .ok (.return_, 1) := by decide +kernel
theorem own_ef20 (m : MethodId) (x0 : Addr) (x1 : Int32) (x2 : Int32) : entryFrame m #[(.ref x0), (.int x1), (.int x2)] 4 = mkF m 0 #[.val (.ref x0), .val (.int x1), .val (.int x2), .unset] [] := by first | (simp [entryFrame, mkF, argsToLocals, Value.category, maxLocals]; done) | rfl
def Qrmad0 (Z : State) (so : Addr) (p2 : Int32) (rs rt fs bs : Addr) (kr kt kf kb : ClassId) (rl tl fl bl : List Value) (zl fc fr bc br los lo : Int32) (sm gb ga : Int64) (ctN cN : Nat) (h0 : Heap) (n0 : Nat) : Option Value → Heap → List Loc → Prop := fun v h L => v = none ∧ Fr n0 L ∧ ∃ (fs2 bs2 : Addr) (kf2 kb2 : ClassId) (fl2 bl2 : List Value) (zl2 : Int32), own_W Z h n0 so rs rt fs2 bs2 kr kt kf2 kb2 (rl.set 0 (.int p2)) (tl.set 0 (.int (Int32.ofNat ctN))) fl2 bl2 zl2 [.ref rs, .ref rt, .int (1 : Int32), .int (Int32.ofNat (ctN + cN)), .long (sm + (p2.toInt64 * (Int32.ofNat cN).toInt64)), .ref fs2, .int fc, .int fr, .ref bs2, .int 0, .int (0 : Int32), .int los, .int lo, .long gb, .long ga] ∧ ((ctN + cN : Nat) : Int) < zl2.toInt ∧ zl2.toInt ≤ 16 ∧ fl2.length = zl2.toNatClampNeg ∧ bl2.length = zl2.toNatClampNeg ∧ (∀ i, fl2.getD i (.long 0) = fl.getD i (.long 0)) ∧ (∀ i, bl2.getD i (.long 0) = bl.getD i (.long 0))
set_option maxRecDepth 65536 in
set_option maxHeartbeats 40000000 in
theorem rmad0 (l : Launch) (Z : State) (a0 : Array Value) (hw : ∀ d ∈ tables_1, d.before a0 Z = true) (ws : List Jvm.Cond) (so : Addr) (p2 : Int32) (rs rt fs bs : Addr) (kr kt kf kb : ClassId) (rl tl fl bl : List Value) (zl fc fr bc br los lo : Int32) (sm gb ga : Int64) (ctN cN : Nat) (h0 : Heap) (n0 : Nat) (Z0 : n0 ≤ h0.size) (WW : own_W Z h0 n0 so rs rt fs bs kr kt kf kb rl tl fl bl zl [(.ref rs), (.ref rt), (.int (0 : Int32)), (.int (Int32.ofNat ctN)), (.long sm), (.ref fs), (.int fc), (.int fr), (.ref bs), (.int bc), (.int br), (.int los), (.int lo), (.long gb), (.long ga)]) (hct : ctN + cN ≤ 8) (hcn : 1 ≤ cN) (hz1 : 1 ≤ zl.toInt) (hz16 : zl.toInt ≤ 16) (hrl : rl.length = 2) (htl : tl.length = 2) (hfl : fl.length = zl.toNatClampNeg) (hbl : bl.length = zl.toNatClampNeg) :
    MetFree l (⟨"com/example/binflow/binflow/solve/SubsetSums", "add", "(II)V"⟩ : MethodName) (head1 (Jvm.Cond.code (⟨"com/example/binflow/binflow/solve/SubsetSums", "add", "(II)V"⟩ : MethodName) prog_23_method_3_code 4 none :: ws) ({ frames := 2, cells := 2, slots := 32, locals := 52 } : Room)) (fun a U => a = #[(.ref so), (.int p2), (.int (Int32.ofNat cN))] ∧ Z.Warmed39 U.vm ∧ U.heap = h0) (fun _ _ _ _ _ => True) (fun _ U o U' => ∃ v L, o = .returned v ∧ (Qrmad0 Z so p2 rs rt fs bs kr kt kf kb rl tl fl bl zl fc fr bc br los lo sm gb ga ctN cN h0 n0) v U'.heap L ∧ FrameEnd U o U' L ({ frames := 2, cells := 2, slots := 32, locals := 52 } : Room).cells ({ frames := 2, cells := 2, slots := 32, locals := 52 } : Room).slots) := by
  refine MetFree.of_bodySF own_pn15 hisR ?_
  intro p ev s m args below meth c s₁ Bd hml0 hP hK
  obtain ⟨rfl, hZ, hh⟩ := hP
  have hx := Bd.exec
  have hby := Bd.bytes
  have hlk := Bd.notSynchronized
  have hml : c.maxLocals = 4 := hml0
  have hown : s.vm.findClass "com/example/binflow/binflow/solve/SubsetSums" = some m.cls := findClass_of_methodNamed Bd.named
  have hnm := (name_of_methodNamed Bd.named Bd.method).1
  have X0 : Stand p l ev ({ frames := 2, cells := 2, slots := 32, locals := 52 } : Room) s m #[(.ref so), (.int p2), (.int (Int32.ofNat cN))] below meth c s₁ [] 0 0 := Stand.of_body Bd
  have e0 : s₁.heap = h0 := by rw [← hh, Bd.state]; rfl
  have N0 := Fr.nil n0
  refine Rch.entry (G := (EndQ (Qrmad0 Z so p2 rs rt fs bs kr kt kf kb rl tl fl bl zl fc fr bc br los lo sm gb ga ctN cN h0 n0) s ({ frames := 2, cells := 2, slots := 32, locals := 52 } : Room).cells ({ frames := 2, cells := 2, slots := 32, locals := 52 } : Room).slots)) (own_ef20 m so p2 (Int32.ofNat cN)) ?_
  show Rch p ev below _ s₁ (mkF m 0 #[.val (.ref so), .val (.int p2), .val (.int (Int32.ofNat cN)), .unset] [])
  have nzl := own_nat zl (by omega)
  have kc := own_ofN (ctN + cN) (by omega)
  refine Rch.go (fun _ q => XS.aloadN X0.here hx rfl (hb hby dad_0) rfl rfl q) ?_
  show Rch p ev below _ s₁ (mkF m 1 #[.val (.ref so), .val (.int p2), .val (.int (Int32.ofNat cN)), .unset] [(.ref so)])
  obtain ⟨T101, X101, e101, st101⟩ := getF X0 hx hZ hown (host := "") (Or.inl (hw _ (List.mem_of_getElem? (i := 22) rfl))) Via.refl e0 (WW.2.1 0 _ _ _ rfl rfl) (g := (mkF m 1 #[.val (.ref so), .val (.int p2), .val (.int (Int32.ofNat cN)), .unset] [(.ref so)])) rfl rfl (hb hby dad_1)
  refine Rch.go st101 ?_
  show Rch p ev below _ T101 (mkF m 4 #[.val (.ref so), .val (.int p2), .val (.int (Int32.ofNat cN)), .unset] [(.ref rs)])
  refine Rch.go (fun _ q => XS.aloadN X101.here hx rfl (hb hby dad_4) rfl rfl q) ?_
  show Rch p ev below _ T101 (mkF m 5 #[.val (.ref so), .val (.int p2), .val (.int (Int32.ofNat cN)), .unset] [(.ref so), (.ref rs)])
  obtain ⟨T102, X102, e102, st102⟩ := getF X101 hx hZ hown (host := "") (Or.inl (hw _ (List.mem_of_getElem? (i := 31) rfl))) Via.refl e101 (WW.2.1 2 _ _ _ rfl rfl) (g := (mkF m 5 #[.val (.ref so), .val (.int p2), .val (.int (Int32.ofNat cN)), .unset] [(.ref so), (.ref rs)])) rfl rfl (hb hby dad_5)
  refine Rch.go st102 ?_
  show Rch p ev below _ T102 (mkF m 8 #[.val (.ref so), .val (.int p2), .val (.int (Int32.ofNat cN)), .unset] [(.int (0 : Int32)), (.ref rs)])
  refine Rch.go (fun _ q => XS.iloadN X102.here hx rfl (hb hby dad_8) rfl  q) ?_
  show Rch p ev below _ T102 (mkF m 9 #[.val (.ref so), .val (.int p2), .val (.int (Int32.ofNat cN)), .unset] [(.int p2), (.int (0 : Int32)), (.ref rs)])
  obtain ⟨T103, h103, X103, e103, W103, V103, st103⟩ := sdI X102 hx hZ e102 WW.2.2.1 (j := (0 : Int32)) (by decide) 0 (by decide) (by rw [hrl]; decide) (g := (mkF m 9 #[.val (.ref so), .val (.int p2), .val (.int (Int32.ofNat cN)), .unset] [(.int p2), (.int (0 : Int32)), (.ref rs)])) rfl rfl (hb hby dad_9)
  have N103 := Fr.snoc X103 N0 WW.2.2.2.2.2.2.1.2.1
  have WW103 : own_W Z h103 n0 so rs rt fs bs kr kt kf kb (rl.set 0 (.int p2)) tl fl bl zl [(.ref rs), (.ref rt), (.int (0 : Int32)), (.int (Int32.ofNat ctN)), (.long sm), (.ref fs), (.int fc), (.int fr), (.ref bs), (.int bc), (.int br), (.int los), (.int lo), (.long gb), (.long ga)] := own_W_rs WW W103 V103
  refine Rch.go st103 ?_
  show Rch p ev below _ T103 (mkF m 10 #[.val (.ref so), .val (.int p2), .val (.int (Int32.ofNat cN)), .unset] [])
  refine Rch.go (fun _ q => XS.aloadN X103.here hx rfl (hb hby dad_10) rfl rfl q) ?_
  show Rch p ev below _ T103 (mkF m 11 #[.val (.ref so), .val (.int p2), .val (.int (Int32.ofNat cN)), .unset] [(.ref so)])
  obtain ⟨T104, X104, e104, st104⟩ := getF X103 hx hZ hown (host := "") (Or.inl (hw _ (List.mem_of_getElem? (i := 24) rfl))) Via.refl e103 (WW103.2.1 1 _ _ _ rfl rfl) (g := (mkF m 11 #[.val (.ref so), .val (.int p2), .val (.int (Int32.ofNat cN)), .unset] [(.ref so)])) rfl rfl (hb hby dad_11)
  refine Rch.go st104 ?_
  show Rch p ev below _ T104 (mkF m 14 #[.val (.ref so), .val (.int p2), .val (.int (Int32.ofNat cN)), .unset] [(.ref rt)])
  refine Rch.go (fun _ q => XS.aloadN X104.here hx rfl (hb hby dad_14) rfl rfl q) ?_
  show Rch p ev below _ T104 (mkF m 15 #[.val (.ref so), .val (.int p2), .val (.int (Int32.ofNat cN)), .unset] [(.ref so), (.ref rt)])
  obtain ⟨T105, X105, e105, st105⟩ := getF X104 hx hZ hown (host := "") (Or.inl (hw _ (List.mem_of_getElem? (i := 31) rfl))) Via.refl e104 (WW103.2.1 2 _ _ _ rfl rfl) (g := (mkF m 15 #[.val (.ref so), .val (.int p2), .val (.int (Int32.ofNat cN)), .unset] [(.ref so), (.ref rt)])) rfl rfl (hb hby dad_15)
  refine Rch.go st105 ?_
  show Rch p ev below _ T105 (mkF m 18 #[.val (.ref so), .val (.int p2), .val (.int (Int32.ofNat cN)), .unset] [(.int (0 : Int32)), (.ref rt)])
  refine Rch.go (fun _ q => XS.aloadN X105.here hx rfl (hb hby dad_18) rfl rfl q) ?_
  show Rch p ev below _ T105 (mkF m 19 #[.val (.ref so), .val (.int p2), .val (.int (Int32.ofNat cN)), .unset] [(.ref so), (.int (0 : Int32)), (.ref rt)])
  obtain ⟨T106, X106, e106, st106⟩ := getF X105 hx hZ hown (host := "") (Or.inl (hw _ (List.mem_of_getElem? (i := 33) rfl))) Via.refl e105 (WW103.2.1 3 _ _ _ rfl rfl) (g := (mkF m 19 #[.val (.ref so), .val (.int p2), .val (.int (Int32.ofNat cN)), .unset] [(.ref so), (.int (0 : Int32)), (.ref rt)])) rfl rfl (hb hby dad_19)
  refine Rch.go st106 ?_
  show Rch p ev below _ T106 (mkF m 22 #[.val (.ref so), .val (.int p2), .val (.int (Int32.ofNat cN)), .unset] [(.int (Int32.ofNat ctN)), (.int (0 : Int32)), (.ref rt)])
  obtain ⟨T107, h107, X107, e107, W107, V107, st107⟩ := sdI X106 hx hZ e106 WW103.2.2.2.1 (j := (0 : Int32)) (by decide) 0 (by decide) (by rw [htl]; decide) (g := (mkF m 22 #[.val (.ref so), .val (.int p2), .val (.int (Int32.ofNat cN)), .unset] [(.int (Int32.ofNat ctN)), (.int (0 : Int32)), (.ref rt)])) rfl rfl (hb hby dad_22)
  have N107 := Fr.snoc X107 N103 WW103.2.2.2.2.2.2.1.2.2.1
  have WW107 : own_W Z h107 n0 so rs rt fs bs kr kt kf kb (rl.set 0 (.int p2)) (tl.set 0 (.int (Int32.ofNat ctN))) fl bl zl [(.ref rs), (.ref rt), (.int (0 : Int32)), (.int (Int32.ofNat ctN)), (.long sm), (.ref fs), (.int fc), (.int fr), (.ref bs), (.int bc), (.int br), (.int los), (.int lo), (.long gb), (.long ga)] := own_W_rt WW103 W107 V107
  refine Rch.go st107 ?_
  show Rch p ev below _ T107 (mkF m 23 #[.val (.ref so), .val (.int p2), .val (.int (Int32.ofNat cN)), .unset] [])
  refine Rch.go (fun _ q => XS.aloadN X107.here hx rfl (hb hby dad_23) rfl rfl q) ?_
  show Rch p ev below _ T107 (mkF m 24 #[.val (.ref so), .val (.int p2), .val (.int (Int32.ofNat cN)), .unset] [(.ref so)])
  refine Rch.go (fun _ q => XS.dup X107.here hx rfl (hb hby dad_24) rfl rfl q) ?_
  show Rch p ev below _ T107 (mkF m 25 #[.val (.ref so), .val (.int p2), .val (.int (Int32.ofNat cN)), .unset] [(.ref so), (.ref so)])
  obtain ⟨T108, X108, e108, st108⟩ := getF X107 hx hZ hown (host := "") (Or.inl (hw _ (List.mem_of_getElem? (i := 31) rfl))) Via.refl e107 (WW107.2.1 2 _ _ _ rfl rfl) (g := (mkF m 25 #[.val (.ref so), .val (.int p2), .val (.int (Int32.ofNat cN)), .unset] [(.ref so), (.ref so)])) rfl rfl (hb hby dad_25)
  refine Rch.go st108 ?_
  show Rch p ev below _ T108 (mkF m 28 #[.val (.ref so), .val (.int p2), .val (.int (Int32.ofNat cN)), .unset] [(.int (0 : Int32)), (.ref so)])
  refine Rch.go (fun _ q => XS.iconst X108.here hx rfl (hb hby dad_28) q) ?_
  show Rch p ev below _ T108 (mkF m 29 #[.val (.ref so), .val (.int p2), .val (.int (Int32.ofNat cN)), .unset] [(.int (1 : Int32)), (.int (0 : Int32)), (.ref so)])
  refine Rch.go (fun _ q => XS.iadd X108.here hx rfl (hb hby dad_29) rfl q) ?_
  show Rch p ev below _ T108 (mkF m 30 #[.val (.ref so), .val (.int p2), .val (.int (Int32.ofNat cN)), .unset] [(.int ((0 : Int32) + (1 : Int32))), (.ref so)])
  rw [show ((0 : Int32) + (1 : Int32)) = (1 : Int32) from (by decide)]
  show Rch p ev below _ T108 (mkF m 30 #[.val (.ref so), .val (.int p2), .val (.int (Int32.ofNat cN)), .unset] [(.int (1 : Int32)), (.ref so)])
  obtain ⟨T109, h109, X109, e109, W109, st109⟩ := putF X108 hx hZ hown (host := "") (Or.inl (hw _ (List.mem_of_getElem? (i := 31) rfl))) Via.refl e108 (WW107.2.1 2 _ _ _ rfl rfl) WW107.1 (Or.inl (hw _ (List.mem_of_getElem? (i := 32) rfl))) (hw _ (List.mem_of_getElem? (i := 8) rfl)) (ty := .int) (by decide) rfl rfl (g := (mkF m 30 #[.val (.ref so), .val (.int p2), .val (.int (Int32.ofNat cN)), .unset] [(.int (1 : Int32)), (.ref so)])) rfl rfl (hb hby dad_30)
  have N109 := Fr.snoc X109 N107 WW107.2.2.2.2.2.2.1.1
  have Z109 : n0 ≤ h109.size := by rw [W109.size]; exact WW107.2.2.2.2.2.2.1.2.2.2.2.2
  refine Rch.go st109 ?_
  show Rch p ev below _ T109 (mkF m 33 #[.val (.ref so), .val (.int p2), .val (.int (Int32.ofNat cN)), .unset] [])
  have WW109 : own_W Z h109 n0 so rs rt fs bs kr kt kf kb (rl.set 0 (.int p2)) (tl.set 0 (.int (Int32.ofNat ctN))) fl bl zl [(.ref rs), (.ref rt), (.int (1 : Int32)), (.int (Int32.ofNat ctN)), (.long sm), (.ref fs), (.int fc), (.int fr), (.ref bs), (.int bc), (.int br), (.int los), (.int lo), (.long gb), (.long ga)] := own_W_put hw WW107 2 rfl W109
  refine Rch.go (fun _ q => XS.aloadN X109.here hx rfl (hb hby dad_33) rfl rfl q) ?_
  show Rch p ev below _ T109 (mkF m 34 #[.val (.ref so), .val (.int p2), .val (.int (Int32.ofNat cN)), .unset] [(.ref so)])
  refine Rch.go (fun _ q => XS.dup X109.here hx rfl (hb hby dad_34) rfl rfl q) ?_
  show Rch p ev below _ T109 (mkF m 35 #[.val (.ref so), .val (.int p2), .val (.int (Int32.ofNat cN)), .unset] [(.ref so), (.ref so)])
  obtain ⟨T110, X110, e110, st110⟩ := getF X109 hx hZ hown (host := "") (Or.inl (hw _ (List.mem_of_getElem? (i := 33) rfl))) Via.refl e109 (WW109.2.1 3 _ _ _ rfl rfl) (g := (mkF m 35 #[.val (.ref so), .val (.int p2), .val (.int (Int32.ofNat cN)), .unset] [(.ref so), (.ref so)])) rfl rfl (hb hby dad_35)
  refine Rch.go st110 ?_
  show Rch p ev below _ T110 (mkF m 38 #[.val (.ref so), .val (.int p2), .val (.int (Int32.ofNat cN)), .unset] [(.int (Int32.ofNat ctN)), (.ref so)])
  refine Rch.go (fun _ q => XS.iloadN X110.here hx rfl (hb hby dad_38) rfl  q) ?_
  show Rch p ev below _ T110 (mkF m 39 #[.val (.ref so), .val (.int p2), .val (.int (Int32.ofNat cN)), .unset] [(.int (Int32.ofNat cN)), (.int (Int32.ofNat ctN)), (.ref so)])
  refine Rch.go (fun _ q => XS.iadd X110.here hx rfl (hb hby dad_39) rfl q) ?_
  show Rch p ev below _ T110 (mkF m 40 #[.val (.ref so), .val (.int p2), .val (.int (Int32.ofNat cN)), .unset] [(.int ((Int32.ofNat ctN) + (Int32.ofNat cN))), (.ref so)])
  rw [show (Int32.ofNat ctN + Int32.ofNat cN) = (Int32.ofNat (ctN + cN)) from (own_add_N (by omega))]
  show Rch p ev below _ T110 (mkF m 40 #[.val (.ref so), .val (.int p2), .val (.int (Int32.ofNat cN)), .unset] [(.int (Int32.ofNat (ctN + cN))), (.ref so)])
  obtain ⟨T111, h111, X111, e111, W111, st111⟩ := putF X110 hx hZ hown (host := "") (Or.inl (hw _ (List.mem_of_getElem? (i := 33) rfl))) Via.refl e110 (WW109.2.1 3 _ _ _ rfl rfl) WW109.1 (Or.inl (hw _ (List.mem_of_getElem? (i := 34) rfl))) (hw _ (List.mem_of_getElem? (i := 8) rfl)) (ty := .int) (by decide) rfl rfl (g := (mkF m 40 #[.val (.ref so), .val (.int p2), .val (.int (Int32.ofNat cN)), .unset] [(.int (Int32.ofNat (ctN + cN))), (.ref so)])) rfl rfl (hb hby dad_40)
  have N111 := Fr.snoc X111 N109 WW109.2.2.2.2.2.2.1.1
  have Z111 : n0 ≤ h111.size := by rw [W111.size]; exact WW109.2.2.2.2.2.2.1.2.2.2.2.2
  refine Rch.go st111 ?_
  show Rch p ev below _ T111 (mkF m 43 #[.val (.ref so), .val (.int p2), .val (.int (Int32.ofNat cN)), .unset] [])
  have WW111 : own_W Z h111 n0 so rs rt fs bs kr kt kf kb (rl.set 0 (.int p2)) (tl.set 0 (.int (Int32.ofNat ctN))) fl bl zl [(.ref rs), (.ref rt), (.int (1 : Int32)), (.int (Int32.ofNat (ctN + cN))), (.long sm), (.ref fs), (.int fc), (.int fr), (.ref bs), (.int bc), (.int br), (.int los), (.int lo), (.long gb), (.long ga)] := own_W_put hw WW109 3 rfl W111
  refine Rch.go (fun _ q => XS.aloadN X111.here hx rfl (hb hby dad_43) rfl rfl q) ?_
  show Rch p ev below _ T111 (mkF m 44 #[.val (.ref so), .val (.int p2), .val (.int (Int32.ofNat cN)), .unset] [(.ref so)])
  refine Rch.go (fun _ q => XS.dup X111.here hx rfl (hb hby dad_44) rfl rfl q) ?_
  show Rch p ev below _ T111 (mkF m 45 #[.val (.ref so), .val (.int p2), .val (.int (Int32.ofNat cN)), .unset] [(.ref so), (.ref so)])
  obtain ⟨T112, X112, e112, st112⟩ := getF X111 hx hZ hown (host := "") (Or.inl (hw _ (List.mem_of_getElem? (i := 35) rfl))) Via.refl e111 (WW111.2.1 4 _ _ _ rfl rfl) (g := (mkF m 45 #[.val (.ref so), .val (.int p2), .val (.int (Int32.ofNat cN)), .unset] [(.ref so), (.ref so)])) rfl rfl (hb hby dad_45)
  refine Rch.go st112 ?_
  show Rch p ev below _ T112 (mkF m 48 #[.val (.ref so), .val (.int p2), .val (.int (Int32.ofNat cN)), .unset] [(.long sm), (.ref so)])
  refine Rch.go (fun _ q => XS.iloadN X112.here hx rfl (hb hby dad_48) rfl  q) ?_
  show Rch p ev below _ T112 (mkF m 49 #[.val (.ref so), .val (.int p2), .val (.int (Int32.ofNat cN)), .unset] [(.int p2), (.long sm), (.ref so)])
  refine Rch.go (fun _ q => XS.i2l X112.here hx rfl (hb hby dad_49) rfl q) ?_
  show Rch p ev below _ T112 (mkF m 50 #[.val (.ref so), .val (.int p2), .val (.int (Int32.ofNat cN)), .unset] [(.long (p2.toInt64)), (.long sm), (.ref so)])
  refine Rch.go (fun _ q => XS.iloadN X112.here hx rfl (hb hby dad_50) rfl  q) ?_
  show Rch p ev below _ T112 (mkF m 51 #[.val (.ref so), .val (.int p2), .val (.int (Int32.ofNat cN)), .unset] [(.int (Int32.ofNat cN)), (.long (p2.toInt64)), (.long sm), (.ref so)])
  refine Rch.go (fun _ q => XS.i2l X112.here hx rfl (hb hby dad_51) rfl q) ?_
  show Rch p ev below _ T112 (mkF m 52 #[.val (.ref so), .val (.int p2), .val (.int (Int32.ofNat cN)), .unset] [(.long ((Int32.ofNat cN).toInt64)), (.long (p2.toInt64)), (.long sm), (.ref so)])
  refine Rch.go (fun _ q => XS.lmul X112.here hx rfl (hb hby dad_52) rfl q) ?_
  show Rch p ev below _ T112 (mkF m 53 #[.val (.ref so), .val (.int p2), .val (.int (Int32.ofNat cN)), .unset] [(.long ((p2.toInt64) * ((Int32.ofNat cN).toInt64))), (.long sm), (.ref so)])
  refine Rch.go (fun _ q => XS.ladd X112.here hx rfl (hb hby dad_53) rfl q) ?_
  show Rch p ev below _ T112 (mkF m 54 #[.val (.ref so), .val (.int p2), .val (.int (Int32.ofNat cN)), .unset] [(.long (sm + ((p2.toInt64) * ((Int32.ofNat cN).toInt64)))), (.ref so)])
  obtain ⟨T113, h113, X113, e113, W113, st113⟩ := putF X112 hx hZ hown (host := "") (Or.inl (hw _ (List.mem_of_getElem? (i := 35) rfl))) Via.refl e112 (WW111.2.1 4 _ _ _ rfl rfl) WW111.1 (Or.inl (hw _ (List.mem_of_getElem? (i := 36) rfl))) (hw _ (List.mem_of_getElem? (i := 8) rfl)) (ty := .long) (by decide) rfl rfl (g := (mkF m 54 #[.val (.ref so), .val (.int p2), .val (.int (Int32.ofNat cN)), .unset] [(.long (sm + ((p2.toInt64) * ((Int32.ofNat cN).toInt64)))), (.ref so)])) rfl rfl (hb hby dad_54)
  have N113 := Fr.snoc X113 N111 WW111.2.2.2.2.2.2.1.1
  have Z113 : n0 ≤ h113.size := by rw [W113.size]; exact WW111.2.2.2.2.2.2.1.2.2.2.2.2
  refine Rch.go st113 ?_
  show Rch p ev below _ T113 (mkF m 57 #[.val (.ref so), .val (.int p2), .val (.int (Int32.ofNat cN)), .unset] [])
  have WW113 : own_W Z h113 n0 so rs rt fs bs kr kt kf kb (rl.set 0 (.int p2)) (tl.set 0 (.int (Int32.ofNat ctN))) fl bl zl [(.ref rs), (.ref rt), (.int (1 : Int32)), (.int (Int32.ofNat (ctN + cN))), (.long (sm + ((p2.toInt64) * ((Int32.ofNat cN).toInt64)))), (.ref fs), (.int fc), (.int fr), (.ref bs), (.int bc), (.int br), (.int los), (.int lo), (.long gb), (.long ga)] := own_W_put hw WW111 4 rfl W113
  refine Rch.go (fun _ q => XS.aloadN X113.here hx rfl (hb hby dad_57) rfl rfl q) ?_
  show Rch p ev below _ T113 (mkF m 58 #[.val (.ref so), .val (.int p2), .val (.int (Int32.ofNat cN)), .unset] [(.ref so)])
  refine Rch.go (fun _ q => XS.iconst X113.here hx rfl (hb hby dad_58) q) ?_
  show Rch p ev below _ T113 (mkF m 59 #[.val (.ref so), .val (.int p2), .val (.int (Int32.ofNat cN)), .unset] [(.int (0 : Int32)), (.ref so)])
  obtain ⟨T114, h114, X114, e114, W114, st114⟩ := putF X113 hx hZ hown (host := "") (Or.inl (hw _ (List.mem_of_getElem? (i := 37) rfl))) Via.refl e113 (WW113.2.1 9 _ _ _ rfl rfl) WW113.1 (Or.inl (hw _ (List.mem_of_getElem? (i := 38) rfl))) (hw _ (List.mem_of_getElem? (i := 8) rfl)) (ty := .int) (by decide) rfl rfl (g := (mkF m 59 #[.val (.ref so), .val (.int p2), .val (.int (Int32.ofNat cN)), .unset] [(.int (0 : Int32)), (.ref so)])) rfl rfl (hb hby dad_59)
  have N114 := Fr.snoc X114 N113 WW113.2.2.2.2.2.2.1.1
  have Z114 : n0 ≤ h114.size := by rw [W114.size]; exact WW113.2.2.2.2.2.2.1.2.2.2.2.2
  refine Rch.go st114 ?_
  show Rch p ev below _ T114 (mkF m 62 #[.val (.ref so), .val (.int p2), .val (.int (Int32.ofNat cN)), .unset] [])
  have WW114 : own_W Z h114 n0 so rs rt fs bs kr kt kf kb (rl.set 0 (.int p2)) (tl.set 0 (.int (Int32.ofNat ctN))) fl bl zl [(.ref rs), (.ref rt), (.int (1 : Int32)), (.int (Int32.ofNat (ctN + cN))), (.long (sm + ((p2.toInt64) * ((Int32.ofNat cN).toInt64)))), (.ref fs), (.int fc), (.int fr), (.ref bs), (.int (0 : Int32)), (.int br), (.int los), (.int lo), (.long gb), (.long ga)] := own_W_put hw WW113 9 rfl W114
  refine Rch.go (fun _ q => XS.aloadN X114.here hx rfl (hb hby dad_62) rfl rfl q) ?_
  show Rch p ev below _ T114 (mkF m 63 #[.val (.ref so), .val (.int p2), .val (.int (Int32.ofNat cN)), .unset] [(.ref so)])
  refine Rch.go (fun _ q => XS.aloadN X114.here hx rfl (hb hby dad_63) rfl rfl q) ?_
  show Rch p ev below _ T114 (mkF m 64 #[.val (.ref so), .val (.int p2), .val (.int (Int32.ofNat cN)), .unset] [(.ref so), (.ref so)])
  obtain ⟨T115, X115, e115, st115⟩ := getF X114 hx hZ hown (host := "") (Or.inl (hw _ (List.mem_of_getElem? (i := 31) rfl))) Via.refl e114 (WW114.2.1 2 _ _ _ rfl rfl) (g := (mkF m 64 #[.val (.ref so), .val (.int p2), .val (.int (Int32.ofNat cN)), .unset] [(.ref so), (.ref so)])) rfl rfl (hb hby dad_64)
  refine Rch.go st115 ?_
  show Rch p ev below _ T115 (mkF m 67 #[.val (.ref so), .val (.int p2), .val (.int (Int32.ofNat cN)), .unset] [(.int (1 : Int32)), (.ref so)])
  refine Rch.go (fun _ q => XS.iconst X115.here hx rfl (hb hby dad_67) q) ?_
  show Rch p ev below _ T115 (mkF m 68 #[.val (.ref so), .val (.int p2), .val (.int (Int32.ofNat cN)), .unset] [(.int (1 : Int32)), (.int (1 : Int32)), (.ref so)])
  refine Rch.go (fun _ q => XS.isub X115.here hx rfl (hb hby dad_68) rfl q) ?_
  show Rch p ev below _ T115 (mkF m 69 #[.val (.ref so), .val (.int p2), .val (.int (Int32.ofNat cN)), .unset] [(.int ((1 : Int32) - (1 : Int32))), (.ref so)])
  rw [show ((1 : Int32) - (1 : Int32)) = (0 : Int32) from (by decide)]
  show Rch p ev below _ T115 (mkF m 69 #[.val (.ref so), .val (.int p2), .val (.int (Int32.ofNat cN)), .unset] [(.int (0 : Int32)), (.ref so)])
  obtain ⟨T116, h116, X116, e116, W116, st116⟩ := putF X115 hx hZ hown (host := "") (Or.inl (hw _ (List.mem_of_getElem? (i := 39) rfl))) Via.refl e115 (WW114.2.1 10 _ _ _ rfl rfl) WW114.1 (Or.inl (hw _ (List.mem_of_getElem? (i := 40) rfl))) (hw _ (List.mem_of_getElem? (i := 8) rfl)) (ty := .int) (by decide) rfl rfl (g := (mkF m 69 #[.val (.ref so), .val (.int p2), .val (.int (Int32.ofNat cN)), .unset] [(.int (0 : Int32)), (.ref so)])) rfl rfl (hb hby dad_69)
  have N116 := Fr.snoc X116 N114 WW114.2.2.2.2.2.2.1.1
  have Z116 : n0 ≤ h116.size := by rw [W116.size]; exact WW114.2.2.2.2.2.2.1.2.2.2.2.2
  refine Rch.go st116 ?_
  show Rch p ev below _ T116 (mkF m 72 #[.val (.ref so), .val (.int p2), .val (.int (Int32.ofNat cN)), .unset] [])
  have WW116 : own_W Z h116 n0 so rs rt fs bs kr kt kf kb (rl.set 0 (.int p2)) (tl.set 0 (.int (Int32.ofNat ctN))) fl bl zl [(.ref rs), (.ref rt), (.int (1 : Int32)), (.int (Int32.ofNat (ctN + cN))), (.long (sm + ((p2.toInt64) * ((Int32.ofNat cN).toInt64)))), (.ref fs), (.int fc), (.int fr), (.ref bs), (.int (0 : Int32)), (.int (0 : Int32)), (.int los), (.int lo), (.long gb), (.long ga)] := own_W_put hw WW114 10 rfl W116
  refine Rch.go (fun _ q => XS.aloadN X116.here hx rfl (hb hby dad_72) rfl rfl q) ?_
  show Rch p ev below _ T116 (mkF m 73 #[.val (.ref so), .val (.int p2), .val (.int (Int32.ofNat cN)), .unset] [(.ref so)])
  obtain ⟨T117, X117, e117, st117⟩ := getF X116 hx hZ hown (host := "") (Or.inl (hw _ (List.mem_of_getElem? (i := 33) rfl))) Via.refl e116 (WW116.2.1 3 _ _ _ rfl rfl) (g := (mkF m 73 #[.val (.ref so), .val (.int p2), .val (.int (Int32.ofNat cN)), .unset] [(.ref so)])) rfl rfl (hb hby dad_73)
  refine Rch.go st117 ?_
  show Rch p ev below _ T117 (mkF m 76 #[.val (.ref so), .val (.int p2), .val (.int (Int32.ofNat cN)), .unset] [(.int (Int32.ofNat (ctN + cN)))])
  refine Rch.go (fun _ q => XS.aloadN X117.here hx rfl (hb hby dad_76) rfl rfl q) ?_
  show Rch p ev below _ T117 (mkF m 77 #[.val (.ref so), .val (.int p2), .val (.int (Int32.ofNat cN)), .unset] [(.ref so), (.int (Int32.ofNat (ctN + cN)))])
  obtain ⟨T118, X118, e118, st118⟩ := getF X117 hx hZ hown (host := "") (Or.inl (hw _ (List.mem_of_getElem? (i := 17) rfl))) Via.refl e117 (WW116.2.1 5 _ _ _ rfl rfl) (g := (mkF m 77 #[.val (.ref so), .val (.int p2), .val (.int (Int32.ofNat cN)), .unset] [(.ref so), (.int (Int32.ofNat (ctN + cN)))])) rfl rfl (hb hby dad_77)
  refine Rch.go st118 ?_
  show Rch p ev below _ T118 (mkF m 80 #[.val (.ref so), .val (.int p2), .val (.int (Int32.ofNat cN)), .unset] [(.ref fs), (.int (Int32.ofNat (ctN + cN)))])
  refine Rch.go (fun _ q => lenA X118 hx hZ e118 WW116.2.2.2.2.1 (g := (mkF m 80 #[.val (.ref so), .val (.int p2), .val (.int (Int32.ofNat cN)), .unset] [(.ref fs), (.int (Int32.ofNat (ctN + cN)))])) rfl rfl (hb hby dad_80) _ q) ?_
  show Rch p ev below _ T118 (mkF m 81 #[.val (.ref so), .val (.int p2), .val (.int (Int32.ofNat cN)), .unset] [(.int zl), (.int (Int32.ofNat (ctN + cN)))])
  by_cases hc81 : (Int32.ofNat (ctN + cN)) < zl
  · skip
    refine Rch.go (fun _ q => XS.icmpYes X118.here hx rfl (pc0 := 81) (pc' := 125) rfl (hb hby dad_81) rfl (tlt hc81).1 (by decide) (by decide) q) ?_
    show Rch p ev below _ T118 (mkF m 125 #[.val (.ref so), .val (.int p2), .val (.int (Int32.ofNat cN)), .unset] [])
    refine Rch.retV X118 hx hlk Bd.returns (hb hby dad_125) (by decide) (by decide) ?_
    unfold Qrmad0
    rw [e118]
    exact ⟨rfl, N116, fs, bs, kf, kb, fl, bl, zl, WW116, by rw [Int32.lt_iff_toInt_lt, kc] at hc81; exact hc81, hz16, hfl, hbl, fun _ => rfl, fun _ => rfl⟩
  · skip
    refine Rch.go (fun _ q => XS.icmpNo X118.here hx rfl (hb hby dad_81) rfl (flt hc81).1 q) ?_
    show Rch p ev below _ T118 (mkF m 84 #[.val (.ref so), .val (.int p2), .val (.int (Int32.ofNat cN)), .unset] [])
    refine Rch.go (fun _ q => XS.aloadN X118.here hx rfl (hb hby dad_84) rfl rfl q) ?_
    show Rch p ev below _ T118 (mkF m 85 #[.val (.ref so), .val (.int p2), .val (.int (Int32.ofNat cN)), .unset] [(.ref so)])
    obtain ⟨T119, X119, e119, st119⟩ := getF X118 hx hZ hown (host := "") (Or.inl (hw _ (List.mem_of_getElem? (i := 33) rfl))) Via.refl e118 (WW116.2.1 3 _ _ _ rfl rfl) (g := (mkF m 85 #[.val (.ref so), .val (.int p2), .val (.int (Int32.ofNat cN)), .unset] [(.ref so)])) rfl rfl (hb hby dad_85)
    refine Rch.go st119 ?_
    show Rch p ev below _ T119 (mkF m 88 #[.val (.ref so), .val (.int p2), .val (.int (Int32.ofNat cN)), .unset] [(.int (Int32.ofNat (ctN + cN)))])
    refine Rch.go (fun _ q => XS.iconst X119.here hx rfl (hb hby dad_88) q) ?_
    show Rch p ev below _ T119 (mkF m 89 #[.val (.ref so), .val (.int p2), .val (.int (Int32.ofNat cN)), .unset] [(.int (1 : Int32)), (.int (Int32.ofNat (ctN + cN)))])
    refine Rch.go (fun _ q => XS.iadd X119.here hx rfl (hb hby dad_89) rfl q) ?_
    show Rch p ev below _ T119 (mkF m 90 #[.val (.ref so), .val (.int p2), .val (.int (Int32.ofNat cN)), .unset] [(.int ((Int32.ofNat (ctN + cN)) + (1 : Int32)))])
    refine Rch.go (fun _ q => XS.iconst X119.here hx rfl (hb hby dad_90) q) ?_
    show Rch p ev below _ T119 (mkF m 91 #[.val (.ref so), .val (.int p2), .val (.int (Int32.ofNat cN)), .unset] [(.int (2 : Int32)), (.int ((Int32.ofNat (ctN + cN)) + (1 : Int32)))])
    refine Rch.go (fun _ q => XS.aloadN X119.here hx rfl (hb hby dad_91) rfl rfl q) ?_
    show Rch p ev below _ T119 (mkF m 92 #[.val (.ref so), .val (.int p2), .val (.int (Int32.ofNat cN)), .unset] [(.ref so), (.int (2 : Int32)), (.int ((Int32.ofNat (ctN + cN)) + (1 : Int32)))])
    obtain ⟨T120, X120, e120, st120⟩ := getF X119 hx hZ hown (host := "") (Or.inl (hw _ (List.mem_of_getElem? (i := 17) rfl))) Via.refl e119 (WW116.2.1 5 _ _ _ rfl rfl) (g := (mkF m 92 #[.val (.ref so), .val (.int p2), .val (.int (Int32.ofNat cN)), .unset] [(.ref so), (.int (2 : Int32)), (.int ((Int32.ofNat (ctN + cN)) + (1 : Int32)))])) rfl rfl (hb hby dad_92)
    refine Rch.go st120 ?_
    show Rch p ev below _ T120 (mkF m 95 #[.val (.ref so), .val (.int p2), .val (.int (Int32.ofNat cN)), .unset] [(.ref fs), (.int (2 : Int32)), (.int ((Int32.ofNat (ctN + cN)) + (1 : Int32)))])
    refine Rch.go (fun _ q => lenA X120 hx hZ e120 WW116.2.2.2.2.1 (g := (mkF m 95 #[.val (.ref so), .val (.int p2), .val (.int (Int32.ofNat cN)), .unset] [(.ref fs), (.int (2 : Int32)), (.int ((Int32.ofNat (ctN + cN)) + (1 : Int32)))])) rfl rfl (hb hby dad_95) _ q) ?_
    show Rch p ev below _ T120 (mkF m 96 #[.val (.ref so), .val (.int p2), .val (.int (Int32.ofNat cN)), .unset] [(.int zl), (.int (2 : Int32)), (.int ((Int32.ofNat (ctN + cN)) + (1 : Int32)))])
    refine Rch.go (fun _ q => XS.imul X120.here hx rfl (hb hby dad_96) rfl q) ?_
    show Rch p ev below _ T120 (mkF m 97 #[.val (.ref so), .val (.int p2), .val (.int (Int32.ofNat cN)), .unset] [(.int ((2 : Int32) * zl)), (.int ((Int32.ofNat (ctN + cN)) + (1 : Int32)))])
    have hge : zl.toInt ≤ ((ctN + cN : Nat) : Int) := by have q := mt Int32.lt_iff_toInt_lt.mpr hc81; rw [kc] at q; omega
    have m2 := c_imul 2 zl
    have k2 : (2 : Int32).toInt = 2 := rfl
    rw [k2] at m2
    have r2 := rng32 ((2 : Int32) * zl)
    have m1 : (Int32.ofNat (ctN + cN) + (1 : Int32)).toInt = ((ctN + cN + 1 : Nat) : Int) := by rw [own_add1_N (by omega)]; exact own_ofN _ (by omega)
    obtain ⟨_, _, ⟨T121, L121, k121, n121⟩, -, X121, ⟨Lc121, hQ121, l121, y121, z121⟩, st121⟩ := Jvm.LawKit.callS X120 hx (y := (⟨"java/lang/Math", "max", "(II)I"⟩ : MethodName)) hown (mvT hZ (hw _ (List.mem_of_getElem? (i := 41) rfl))) (mvT hZ (hw _ (List.mem_of_getElem? (i := 42) rfl))) (mvT hZ (hw _ (List.mem_of_getElem? (i := 3) rfl))) (mvT hZ (hw _ (List.mem_of_getElem? (i := 43) rfl))) (by decide) (backOf (W := 0) (rmmx l Z a0 hw [] ((Int32.ofNat (ctN + cN)) + (1 : Int32)) ((2 : Int32) * zl) h116 n0 WW116.2.2.2.2.2.2.1.2.2.2.2.2) hZ (hw _ (List.mem_of_getElem? (i := 43) rfl)) (hw _ (List.mem_of_getElem? (i := 3) rfl)) (by decide) (by decide)) (g := (mkF m 97 #[.val (.ref so), .val (.int p2), .val (.int (Int32.ofNat cN)), .unset] [(.int ((2 : Int32) * zl)), (.int ((Int32.ofNat (ctN + cN)) + (1 : Int32)))])) rfl (by rw [hml]; rfl) (argsL := [(.int ((Int32.ofNat (ctN + cN)) + (1 : Int32))), (.int ((2 : Int32) * zl))]) (rest := []) (lenOf own_pd0 rfl) rfl (by show 2 * 0 + _ ≤ _; exact Nat.le_of_eq rfl) (hb hby dad_97) (fun _ _ => ⟨rfl, e120, (by decide : 0 + 0 ≤ _), (by decide : 0 + 0 ≤ _)⟩)
    dsimp only [Pt.U, Pt.locs, Pt.cells, Pt.slots] at X121 l121 y121 z121 st121 hQ121
    subst l121 y121 z121
    obtain ⟨rfl, Nc, ec⟩ := hQ121
    refine Rch.go st121 ?_
    show Rch p ev below _ T121 (mkF m 100 #[.val (.ref so), .val (.int p2), .val (.int (Int32.ofNat cN)), .unset] [(.int (own_max ((Int32.ofNat (ctN + cN)) + (1 : Int32)) ((2 : Int32) * zl)))])
    have N121 := Fr.app N116 Nc
    have e121 := ec
    have hmx : ((ctN + cN : Nat) : Int) < (own_max ((Int32.ofNat (ctN + cN)) + (1 : Int32)) ((2 : Int32) * zl)).toInt ∧ zl.toInt < (own_max ((Int32.ofNat (ctN + cN)) + (1 : Int32)) ((2 : Int32) * zl)).toInt ∧ (own_max ((Int32.ofNat (ctN + cN)) + (1 : Int32)) ((2 : Int32) * zl)).toInt ≤ 16 := by unfold own_max; split <;> rename_i hh <;> rw [Int32.lt_iff_toInt_lt] at hh <;> omega
    obtain ⟨nl, g_nl⟩ : ∃ q, q = (own_max ((Int32.ofNat (ctN + cN)) + (1 : Int32)) ((2 : Int32) * zl)) := ⟨_, rfl⟩
    rw [← g_nl]
    show Rch p ev below _ T121 (mkF m 100 #[.val (.ref so), .val (.int p2), .val (.int (Int32.ofNat cN)), .unset] [(.int nl)])
    rw [← g_nl] at hmx
    refine Rch.go (fun _ q => XS.istoreN X121.here hx rfl (hb hby dad_100) rfl (l' := #[.val (.ref so), .val (.int p2), .val (.int (Int32.ofNat cN)), .val (.int nl)]) rfl q) ?_
    show Rch p ev below _ T121 (mkF m 101 #[.val (.ref so), .val (.int p2), .val (.int (Int32.ofNat cN)), .val (.int nl)] [])
    refine Rch.go (fun _ q => XS.aloadN X121.here hx rfl (hb hby dad_101) rfl rfl q) ?_
    show Rch p ev below _ T121 (mkF m 102 #[.val (.ref so), .val (.int p2), .val (.int (Int32.ofNat cN)), .val (.int nl)] [(.ref so)])
    refine Rch.go (fun _ q => XS.aloadN X121.here hx rfl (hb hby dad_102) rfl rfl q) ?_
    show Rch p ev below _ T121 (mkF m 103 #[.val (.ref so), .val (.int p2), .val (.int (Int32.ofNat cN)), .val (.int nl)] [(.ref so), (.ref so)])
    obtain ⟨T122, X122, e122, st122⟩ := getF X121 hx hZ hown (host := "") (Or.inl (hw _ (List.mem_of_getElem? (i := 17) rfl))) Via.refl e121 (WW116.2.1 5 _ _ _ rfl rfl) (g := (mkF m 103 #[.val (.ref so), .val (.int p2), .val (.int (Int32.ofNat cN)), .val (.int nl)] [(.ref so), (.ref so)])) rfl rfl (hb hby dad_103)
    refine Rch.go st122 ?_
    show Rch p ev below _ T122 (mkF m 106 #[.val (.ref so), .val (.int p2), .val (.int (Int32.ofNat cN)), .val (.int nl)] [(.ref fs), (.ref so)])
    refine Rch.go (fun _ q => XS.iloadN X122.here hx rfl (hb hby dad_106) rfl  q) ?_
    show Rch p ev below _ T122 (mkF m 107 #[.val (.ref so), .val (.int p2), .val (.int (Int32.ofNat cN)), .val (.int nl)] [(.int nl), (.ref fs), (.ref so)])
    obtain ⟨_, _, ⟨T123, L123, k123, n123⟩, -, X123, ⟨Lc123, hQ123, l123, y123, z123⟩, st123⟩ := Jvm.LawKit.callS X122 hx (y := (⟨"java/util/Arrays", "copyOf", "([JI)[J"⟩ : MethodName)) hown (mvT hZ (hw _ (List.mem_of_getElem? (i := 44) rfl))) (mvT hZ (hw _ (List.mem_of_getElem? (i := 45) rfl))) (mvT hZ (hw _ (List.mem_of_getElem? (i := 46) rfl))) (mvT hZ (hw _ (List.mem_of_getElem? (i := 47) rfl))) (by decide) (backOf (W := 1) (rmcp l Z a0 hw [] fs nl kf zl fl h116 n0 WW116.2.2.2.2.2.2.1.2.2.2.2.2 WW116.2.2.2.2.1 hfl (by omega) hmx.2.1 hmx.2.2) hZ (hw _ (List.mem_of_getElem? (i := 47) rfl)) (hw _ (List.mem_of_getElem? (i := 46) rfl)) (by decide) (by decide)) (g := (mkF m 107 #[.val (.ref so), .val (.int p2), .val (.int (Int32.ofNat cN)), .val (.int nl)] [(.int nl), (.ref fs), (.ref so)])) rfl (by rw [hml]; rfl) (argsL := [(.ref fs), (.int nl)]) (rest := [(.ref so)]) (lenOf own_pd1 rfl) rfl (by show 2 * 0 + _ ≤ _; exact Nat.le_of_eq rfl) (hb hby dad_107) (fun _ _ => ⟨rfl, e122, (by decide : 0 + 1 ≤ _), (by decide : 0 + 16 ≤ _)⟩)
    dsimp only [Pt.U, Pt.locs, Pt.cells, Pt.slots] at X123 l123 y123 z123 st123 hQ123
    subst l123 y123 z123
    obtain ⟨fs2, kf2, fl2, rfl, Nc, gef, gsf, Zc, Kc, Vf2, hlf2, huf⟩ := hQ123
    refine Rch.go st123 ?_
    show Rch p ev below _ T123 (mkF m 110 #[.val (.ref so), .val (.int p2), .val (.int (Int32.ofNat cN)), .val (.int nl)] [(.ref fs2), (.ref so)])
    have N123 := Fr.app N121 Nc
    have WK123 := own_W_keep WW116 Kc
    have q1 : so ≠ fs2 := Nat.ne_of_lt (Nat.lt_of_lt_of_le (Exa.lt WW116.1) gsf)
    have q2 : rs ≠ fs2 := Nat.ne_of_lt (Nat.lt_of_lt_of_le (Arv.lt WW116.2.2.1) gsf)
    have q3 : rt ≠ fs2 := Nat.ne_of_lt (Nat.lt_of_lt_of_le (Arv.lt WW116.2.2.2.1) gsf)
    have q4 : fs2 ≠ bs := (Nat.ne_of_lt (Nat.lt_of_lt_of_le (Arv.lt WW116.2.2.2.2.2.1) gsf)).symm
    obtain ⟨T124, h124, X124, e124, W124, st124⟩ := putF X123 hx hZ hown (host := "") (Or.inl (hw _ (List.mem_of_getElem? (i := 17) rfl))) Via.refl rfl (WK123.2.1 5 _ _ _ rfl rfl) WK123.1 (Or.inl (hw _ (List.mem_of_getElem? (i := 18) rfl))) (hw _ (List.mem_of_getElem? (i := 8) rfl)) (ty := (.array .long)) (by decide) rfl rfl (g := (mkF m 110 #[.val (.ref so), .val (.int p2), .val (.int (Int32.ofNat cN)), .val (.int nl)] [(.ref fs2), (.ref so)])) rfl rfl (hb hby dad_110)
    have N124 := Fr.snoc X124 N123 WK123.2.2.2.2.2.2.1.1
    have Z124 : n0 ≤ h124.size := by rw [W124.size]; exact Zc
    refine Rch.go st124 ?_
    show Rch p ev below _ T124 (mkF m 113 #[.val (.ref so), .val (.int p2), .val (.int (Int32.ofNat cN)), .val (.int nl)] [])
    have WW124 : own_W Z h124 n0 so rs rt fs bs kr kt kf kb (rl.set 0 (.int p2)) (tl.set 0 (.int (Int32.ofNat ctN))) fl bl zl [(.ref rs), (.ref rt), (.int (1 : Int32)), (.int (Int32.ofNat (ctN + cN))), (.long (sm + ((p2.toInt64) * ((Int32.ofNat cN).toInt64)))), (.ref fs2), (.int fc), (.int fr), (.ref bs), (.int (0 : Int32)), (.int (0 : Int32)), (.int los), (.int lo), (.long gb), (.long ga)] := own_W_put hw WK123 5 rfl W124
    have Vf3 := Arv.other Vf2 W124 q1.symm
    refine Rch.go (fun _ q => XS.aloadN X124.here hx rfl (hb hby dad_113) rfl rfl q) ?_
    show Rch p ev below _ T124 (mkF m 114 #[.val (.ref so), .val (.int p2), .val (.int (Int32.ofNat cN)), .val (.int nl)] [(.ref so)])
    refine Rch.go (fun _ q => XS.aloadN X124.here hx rfl (hb hby dad_114) rfl rfl q) ?_
    show Rch p ev below _ T124 (mkF m 115 #[.val (.ref so), .val (.int p2), .val (.int (Int32.ofNat cN)), .val (.int nl)] [(.ref so), (.ref so)])
    obtain ⟨T125, X125, e125, st125⟩ := getF X124 hx hZ hown (host := "") (Or.inl (hw _ (List.mem_of_getElem? (i := 19) rfl))) Via.refl e124 (WW124.2.1 8 _ _ _ rfl rfl) (g := (mkF m 115 #[.val (.ref so), .val (.int p2), .val (.int (Int32.ofNat cN)), .val (.int nl)] [(.ref so), (.ref so)])) rfl rfl (hb hby dad_115)
    refine Rch.go st125 ?_
    show Rch p ev below _ T125 (mkF m 118 #[.val (.ref so), .val (.int p2), .val (.int (Int32.ofNat cN)), .val (.int nl)] [(.ref bs), (.ref so)])
    refine Rch.go (fun _ q => XS.iloadN X125.here hx rfl (hb hby dad_118) rfl  q) ?_
    show Rch p ev below _ T125 (mkF m 119 #[.val (.ref so), .val (.int p2), .val (.int (Int32.ofNat cN)), .val (.int nl)] [(.int nl), (.ref bs), (.ref so)])
    obtain ⟨_, _, ⟨T126, L126, k126, n126⟩, -, X126, ⟨Lc126, hQ126, l126, y126, z126⟩, st126⟩ := Jvm.LawKit.callS X125 hx (y := (⟨"java/util/Arrays", "copyOf", "([JI)[J"⟩ : MethodName)) hown (mvT hZ (hw _ (List.mem_of_getElem? (i := 44) rfl))) (mvT hZ (hw _ (List.mem_of_getElem? (i := 45) rfl))) (mvT hZ (hw _ (List.mem_of_getElem? (i := 46) rfl))) (mvT hZ (hw _ (List.mem_of_getElem? (i := 47) rfl))) (by decide) (backOf (W := 1) (rmcp l Z a0 hw [] bs nl kb zl bl h124 n0 WW124.2.2.2.2.2.2.1.2.2.2.2.2 WW124.2.2.2.2.2.1 hbl (by omega) hmx.2.1 hmx.2.2) hZ (hw _ (List.mem_of_getElem? (i := 47) rfl)) (hw _ (List.mem_of_getElem? (i := 46) rfl)) (by decide) (by decide)) (g := (mkF m 119 #[.val (.ref so), .val (.int p2), .val (.int (Int32.ofNat cN)), .val (.int nl)] [(.int nl), (.ref bs), (.ref so)])) rfl (by rw [hml]; rfl) (argsL := [(.ref bs), (.int nl)]) (rest := [(.ref so)]) (lenOf own_pd1 rfl) rfl (by show 2 * 0 + _ ≤ _; exact Nat.le_of_eq rfl) (hb hby dad_119) (fun _ _ => ⟨rfl, e125, (by decide : 1 + 1 ≤ _), (by decide : 16 + 16 ≤ _)⟩)
    dsimp only [Pt.U, Pt.locs, Pt.cells, Pt.slots] at X126 l126 y126 z126 st126 hQ126
    subst l126 y126 z126
    obtain ⟨bs2, kb2, bl2, rfl, Nc, geb, gsb, Zc, Kc, Vb2, hlb2, hub⟩ := hQ126
    refine Rch.go st126 ?_
    show Rch p ev below _ T126 (mkF m 122 #[.val (.ref so), .val (.int p2), .val (.int (Int32.ofNat cN)), .val (.int nl)] [(.ref bs2), (.ref so)])
    have N126 := Fr.app N124 Nc
    have WK126 := own_W_keep WW124 Kc
    have Vf4 := Arv.keep Vf3 Kc nin0
    have q5 : so ≠ bs2 := Nat.ne_of_lt (Nat.lt_of_lt_of_le (Exa.lt WW124.1) gsb)
    have q6 : rs ≠ bs2 := Nat.ne_of_lt (Nat.lt_of_lt_of_le (Arv.lt WW124.2.2.1) gsb)
    have q7 : rt ≠ bs2 := Nat.ne_of_lt (Nat.lt_of_lt_of_le (Arv.lt WW124.2.2.2.1) gsb)
    have q8 : fs2 ≠ bs2 := Nat.ne_of_lt (Nat.lt_of_lt_of_le (Arv.lt Vf3) gsb)
    obtain ⟨T127, h127, X127, e127, W127, st127⟩ := putF X126 hx hZ hown (host := "") (Or.inl (hw _ (List.mem_of_getElem? (i := 19) rfl))) Via.refl rfl (WK126.2.1 8 _ _ _ rfl rfl) WK126.1 (Or.inl (hw _ (List.mem_of_getElem? (i := 20) rfl))) (hw _ (List.mem_of_getElem? (i := 8) rfl)) (ty := (.array .long)) (by decide) rfl rfl (g := (mkF m 122 #[.val (.ref so), .val (.int p2), .val (.int (Int32.ofNat cN)), .val (.int nl)] [(.ref bs2), (.ref so)])) rfl rfl (hb hby dad_122)
    have N127 := Fr.snoc X127 N126 WK126.2.2.2.2.2.2.1.1
    have Z127 : n0 ≤ h127.size := by rw [W127.size]; exact Zc
    refine Rch.go st127 ?_
    show Rch p ev below _ T127 (mkF m 125 #[.val (.ref so), .val (.int p2), .val (.int (Int32.ofNat cN)), .val (.int nl)] [])
    have WW127 : own_W Z h127 n0 so rs rt fs bs kr kt kf kb (rl.set 0 (.int p2)) (tl.set 0 (.int (Int32.ofNat ctN))) fl bl zl [(.ref rs), (.ref rt), (.int (1 : Int32)), (.int (Int32.ofNat (ctN + cN))), (.long (sm + ((p2.toInt64) * ((Int32.ofNat cN).toInt64)))), (.ref fs2), (.int fc), (.int fr), (.ref bs2), (.int (0 : Int32)), (.int (0 : Int32)), (.int los), (.int lo), (.long gb), (.long ga)] := own_W_put hw WK126 8 rfl W127
    have Vf5 := Arv.other Vf4 W127 q1.symm
    have Vb5 := Arv.other Vb2 W127 q5.symm
    obtain ⟨EE, FF, VR, VT, -, -, ⟨l1, l2, l3, -, -, l6⟩, n1, n2, -, -, n5, -⟩ := WW127
    refine Rch.retV X127 hx hlk Bd.returns (hb hby dad_125) (by decide) (by decide) ?_
    unfold Qrmad0
    rw [e127]
    exact ⟨rfl, N127, fs2, bs2, kf2, kb2, fl2, bl2, nl, ⟨EE, FF, VR, VT, Vf5, Vb5, ⟨l1, l2, l3, gef, geb, l6⟩, n1, n2, q1, q5, n5, q2, q6, q3, q7, q8⟩, hmx.1, hmx.2.2, hlf2, hlb2, huf, hub⟩
theorem own_ef21 (m : MethodId) (x0 : Addr) (x1 : Int32) (x2 : Int32) : entryFrame m #[(.ref x0), (.int x1), (.int x2)] 4 = mkF m 0 #[.val (.ref x0), .val (.int x1), .val (.int x2), .unset] [] := by first | (simp [entryFrame, mkF, argsToLocals, Value.category, maxLocals]; done) | rfl
def Qrmad1 (Z : State) (so : Addr) (p2 : Int32) (rs rt fs bs : Addr) (kr kt kf kb : ClassId) (rl tl fl bl : List Value) (zl fc fr bc br los lo : Int32) (sm gb ga : Int64) (ctN cN : Nat) (h0 : Heap) (n0 : Nat) : Option Value → Heap → List Loc → Prop := fun v h L => v = none ∧ Fr n0 L ∧ ∃ (fs2 bs2 : Addr) (kf2 kb2 : ClassId) (fl2 bl2 : List Value) (zl2 : Int32), own_W Z h n0 so rs rt fs2 bs2 kr kt kf2 kb2 (rl.set 1 (.int p2)) (tl.set 1 (.int (Int32.ofNat ctN))) fl2 bl2 zl2 [.ref rs, .ref rt, .int (2 : Int32), .int (Int32.ofNat (ctN + cN)), .long (sm + (p2.toInt64 * (Int32.ofNat cN).toInt64)), .ref fs2, .int fc, .int fr, .ref bs2, .int 0, .int (1 : Int32), .int los, .int lo, .long gb, .long ga] ∧ ((ctN + cN : Nat) : Int) < zl2.toInt ∧ zl2.toInt ≤ 16 ∧ fl2.length = zl2.toNatClampNeg ∧ bl2.length = zl2.toNatClampNeg ∧ (∀ i, fl2.getD i (.long 0) = fl.getD i (.long 0)) ∧ (∀ i, bl2.getD i (.long 0) = bl.getD i (.long 0))
set_option maxRecDepth 65536 in
set_option maxHeartbeats 40000000 in
theorem rmad1 (l : Launch) (Z : State) (a0 : Array Value) (hw : ∀ d ∈ tables_1, d.before a0 Z = true) (ws : List Jvm.Cond) (so : Addr) (p2 : Int32) (rs rt fs bs : Addr) (kr kt kf kb : ClassId) (rl tl fl bl : List Value) (zl fc fr bc br los lo : Int32) (sm gb ga : Int64) (ctN cN : Nat) (h0 : Heap) (n0 : Nat) (Z0 : n0 ≤ h0.size) (WW : own_W Z h0 n0 so rs rt fs bs kr kt kf kb rl tl fl bl zl [(.ref rs), (.ref rt), (.int (1 : Int32)), (.int (Int32.ofNat ctN)), (.long sm), (.ref fs), (.int fc), (.int fr), (.ref bs), (.int bc), (.int br), (.int los), (.int lo), (.long gb), (.long ga)]) (hct : ctN + cN ≤ 8) (hcn : 1 ≤ cN) (hz1 : 1 ≤ zl.toInt) (hz16 : zl.toInt ≤ 16) (hrl : rl.length = 2) (htl : tl.length = 2) (hfl : fl.length = zl.toNatClampNeg) (hbl : bl.length = zl.toNatClampNeg) :
    MetFree l (⟨"com/example/binflow/binflow/solve/SubsetSums", "add", "(II)V"⟩ : MethodName) (head1 (Jvm.Cond.code (⟨"com/example/binflow/binflow/solve/SubsetSums", "add", "(II)V"⟩ : MethodName) prog_23_method_3_code 4 none :: ws) ({ frames := 2, cells := 2, slots := 32, locals := 52 } : Room)) (fun a U => a = #[(.ref so), (.int p2), (.int (Int32.ofNat cN))] ∧ Z.Warmed39 U.vm ∧ U.heap = h0) (fun _ _ _ _ _ => True) (fun _ U o U' => ∃ v L, o = .returned v ∧ (Qrmad1 Z so p2 rs rt fs bs kr kt kf kb rl tl fl bl zl fc fr bc br los lo sm gb ga ctN cN h0 n0) v U'.heap L ∧ FrameEnd U o U' L ({ frames := 2, cells := 2, slots := 32, locals := 52 } : Room).cells ({ frames := 2, cells := 2, slots := 32, locals := 52 } : Room).slots) := by
  refine MetFree.of_bodySF own_pn15 hisR ?_
  intro p ev s m args below meth c s₁ Bd hml0 hP hK
  obtain ⟨rfl, hZ, hh⟩ := hP
  have hx := Bd.exec
  have hby := Bd.bytes
  have hlk := Bd.notSynchronized
  have hml : c.maxLocals = 4 := hml0
  have hown : s.vm.findClass "com/example/binflow/binflow/solve/SubsetSums" = some m.cls := findClass_of_methodNamed Bd.named
  have hnm := (name_of_methodNamed Bd.named Bd.method).1
  have X0 : Stand p l ev ({ frames := 2, cells := 2, slots := 32, locals := 52 } : Room) s m #[(.ref so), (.int p2), (.int (Int32.ofNat cN))] below meth c s₁ [] 0 0 := Stand.of_body Bd
  have e0 : s₁.heap = h0 := by rw [← hh, Bd.state]; rfl
  have N0 := Fr.nil n0
  refine Rch.entry (G := (EndQ (Qrmad1 Z so p2 rs rt fs bs kr kt kf kb rl tl fl bl zl fc fr bc br los lo sm gb ga ctN cN h0 n0) s ({ frames := 2, cells := 2, slots := 32, locals := 52 } : Room).cells ({ frames := 2, cells := 2, slots := 32, locals := 52 } : Room).slots)) (own_ef21 m so p2 (Int32.ofNat cN)) ?_
  show Rch p ev below _ s₁ (mkF m 0 #[.val (.ref so), .val (.int p2), .val (.int (Int32.ofNat cN)), .unset] [])
  have nzl := own_nat zl (by omega)
  have kc := own_ofN (ctN + cN) (by omega)
  refine Rch.go (fun _ q => XS.aloadN X0.here hx rfl (hb hby dad_0) rfl rfl q) ?_
  show Rch p ev below _ s₁ (mkF m 1 #[.val (.ref so), .val (.int p2), .val (.int (Int32.ofNat cN)), .unset] [(.ref so)])
  obtain ⟨T101, X101, e101, st101⟩ := getF X0 hx hZ hown (host := "") (Or.inl (hw _ (List.mem_of_getElem? (i := 22) rfl))) Via.refl e0 (WW.2.1 0 _ _ _ rfl rfl) (g := (mkF m 1 #[.val (.ref so), .val (.int p2), .val (.int (Int32.ofNat cN)), .unset] [(.ref so)])) rfl rfl (hb hby dad_1)
  refine Rch.go st101 ?_
  show Rch p ev below _ T101 (mkF m 4 #[.val (.ref so), .val (.int p2), .val (.int (Int32.ofNat cN)), .unset] [(.ref rs)])
  refine Rch.go (fun _ q => XS.aloadN X101.here hx rfl (hb hby dad_4) rfl rfl q) ?_
  show Rch p ev below _ T101 (mkF m 5 #[.val (.ref so), .val (.int p2), .val (.int (Int32.ofNat cN)), .unset] [(.ref so), (.ref rs)])
  obtain ⟨T102, X102, e102, st102⟩ := getF X101 hx hZ hown (host := "") (Or.inl (hw _ (List.mem_of_getElem? (i := 31) rfl))) Via.refl e101 (WW.2.1 2 _ _ _ rfl rfl) (g := (mkF m 5 #[.val (.ref so), .val (.int p2), .val (.int (Int32.ofNat cN)), .unset] [(.ref so), (.ref rs)])) rfl rfl (hb hby dad_5)
  refine Rch.go st102 ?_
  show Rch p ev below _ T102 (mkF m 8 #[.val (.ref so), .val (.int p2), .val (.int (Int32.ofNat cN)), .unset] [(.int (1 : Int32)), (.ref rs)])
  refine Rch.go (fun _ q => XS.iloadN X102.here hx rfl (hb hby dad_8) rfl  q) ?_
  show Rch p ev below _ T102 (mkF m 9 #[.val (.ref so), .val (.int p2), .val (.int (Int32.ofNat cN)), .unset] [(.int p2), (.int (1 : Int32)), (.ref rs)])
  obtain ⟨T103, h103, X103, e103, W103, V103, st103⟩ := sdI X102 hx hZ e102 WW.2.2.1 (j := (1 : Int32)) (by decide) 1 (by decide) (by rw [hrl]; decide) (g := (mkF m 9 #[.val (.ref so), .val (.int p2), .val (.int (Int32.ofNat cN)), .unset] [(.int p2), (.int (1 : Int32)), (.ref rs)])) rfl rfl (hb hby dad_9)
  have N103 := Fr.snoc X103 N0 WW.2.2.2.2.2.2.1.2.1
  have WW103 : own_W Z h103 n0 so rs rt fs bs kr kt kf kb (rl.set 1 (.int p2)) tl fl bl zl [(.ref rs), (.ref rt), (.int (1 : Int32)), (.int (Int32.ofNat ctN)), (.long sm), (.ref fs), (.int fc), (.int fr), (.ref bs), (.int bc), (.int br), (.int los), (.int lo), (.long gb), (.long ga)] := own_W_rs WW W103 V103
  refine Rch.go st103 ?_
  show Rch p ev below _ T103 (mkF m 10 #[.val (.ref so), .val (.int p2), .val (.int (Int32.ofNat cN)), .unset] [])
  refine Rch.go (fun _ q => XS.aloadN X103.here hx rfl (hb hby dad_10) rfl rfl q) ?_
  show Rch p ev below _ T103 (mkF m 11 #[.val (.ref so), .val (.int p2), .val (.int (Int32.ofNat cN)), .unset] [(.ref so)])
  obtain ⟨T104, X104, e104, st104⟩ := getF X103 hx hZ hown (host := "") (Or.inl (hw _ (List.mem_of_getElem? (i := 24) rfl))) Via.refl e103 (WW103.2.1 1 _ _ _ rfl rfl) (g := (mkF m 11 #[.val (.ref so), .val (.int p2), .val (.int (Int32.ofNat cN)), .unset] [(.ref so)])) rfl rfl (hb hby dad_11)
  refine Rch.go st104 ?_
  show Rch p ev below _ T104 (mkF m 14 #[.val (.ref so), .val (.int p2), .val (.int (Int32.ofNat cN)), .unset] [(.ref rt)])
  refine Rch.go (fun _ q => XS.aloadN X104.here hx rfl (hb hby dad_14) rfl rfl q) ?_
  show Rch p ev below _ T104 (mkF m 15 #[.val (.ref so), .val (.int p2), .val (.int (Int32.ofNat cN)), .unset] [(.ref so), (.ref rt)])
  obtain ⟨T105, X105, e105, st105⟩ := getF X104 hx hZ hown (host := "") (Or.inl (hw _ (List.mem_of_getElem? (i := 31) rfl))) Via.refl e104 (WW103.2.1 2 _ _ _ rfl rfl) (g := (mkF m 15 #[.val (.ref so), .val (.int p2), .val (.int (Int32.ofNat cN)), .unset] [(.ref so), (.ref rt)])) rfl rfl (hb hby dad_15)
  refine Rch.go st105 ?_
  show Rch p ev below _ T105 (mkF m 18 #[.val (.ref so), .val (.int p2), .val (.int (Int32.ofNat cN)), .unset] [(.int (1 : Int32)), (.ref rt)])
  refine Rch.go (fun _ q => XS.aloadN X105.here hx rfl (hb hby dad_18) rfl rfl q) ?_
  show Rch p ev below _ T105 (mkF m 19 #[.val (.ref so), .val (.int p2), .val (.int (Int32.ofNat cN)), .unset] [(.ref so), (.int (1 : Int32)), (.ref rt)])
  obtain ⟨T106, X106, e106, st106⟩ := getF X105 hx hZ hown (host := "") (Or.inl (hw _ (List.mem_of_getElem? (i := 33) rfl))) Via.refl e105 (WW103.2.1 3 _ _ _ rfl rfl) (g := (mkF m 19 #[.val (.ref so), .val (.int p2), .val (.int (Int32.ofNat cN)), .unset] [(.ref so), (.int (1 : Int32)), (.ref rt)])) rfl rfl (hb hby dad_19)
  refine Rch.go st106 ?_
  show Rch p ev below _ T106 (mkF m 22 #[.val (.ref so), .val (.int p2), .val (.int (Int32.ofNat cN)), .unset] [(.int (Int32.ofNat ctN)), (.int (1 : Int32)), (.ref rt)])
  obtain ⟨T107, h107, X107, e107, W107, V107, st107⟩ := sdI X106 hx hZ e106 WW103.2.2.2.1 (j := (1 : Int32)) (by decide) 1 (by decide) (by rw [htl]; decide) (g := (mkF m 22 #[.val (.ref so), .val (.int p2), .val (.int (Int32.ofNat cN)), .unset] [(.int (Int32.ofNat ctN)), (.int (1 : Int32)), (.ref rt)])) rfl rfl (hb hby dad_22)
  have N107 := Fr.snoc X107 N103 WW103.2.2.2.2.2.2.1.2.2.1
  have WW107 : own_W Z h107 n0 so rs rt fs bs kr kt kf kb (rl.set 1 (.int p2)) (tl.set 1 (.int (Int32.ofNat ctN))) fl bl zl [(.ref rs), (.ref rt), (.int (1 : Int32)), (.int (Int32.ofNat ctN)), (.long sm), (.ref fs), (.int fc), (.int fr), (.ref bs), (.int bc), (.int br), (.int los), (.int lo), (.long gb), (.long ga)] := own_W_rt WW103 W107 V107
  refine Rch.go st107 ?_
  show Rch p ev below _ T107 (mkF m 23 #[.val (.ref so), .val (.int p2), .val (.int (Int32.ofNat cN)), .unset] [])
  refine Rch.go (fun _ q => XS.aloadN X107.here hx rfl (hb hby dad_23) rfl rfl q) ?_
  show Rch p ev below _ T107 (mkF m 24 #[.val (.ref so), .val (.int p2), .val (.int (Int32.ofNat cN)), .unset] [(.ref so)])
  refine Rch.go (fun _ q => XS.dup X107.here hx rfl (hb hby dad_24) rfl rfl q) ?_
  show Rch p ev below _ T107 (mkF m 25 #[.val (.ref so), .val (.int p2), .val (.int (Int32.ofNat cN)), .unset] [(.ref so), (.ref so)])
  obtain ⟨T108, X108, e108, st108⟩ := getF X107 hx hZ hown (host := "") (Or.inl (hw _ (List.mem_of_getElem? (i := 31) rfl))) Via.refl e107 (WW107.2.1 2 _ _ _ rfl rfl) (g := (mkF m 25 #[.val (.ref so), .val (.int p2), .val (.int (Int32.ofNat cN)), .unset] [(.ref so), (.ref so)])) rfl rfl (hb hby dad_25)
  refine Rch.go st108 ?_
  show Rch p ev below _ T108 (mkF m 28 #[.val (.ref so), .val (.int p2), .val (.int (Int32.ofNat cN)), .unset] [(.int (1 : Int32)), (.ref so)])
  refine Rch.go (fun _ q => XS.iconst X108.here hx rfl (hb hby dad_28) q) ?_
  show Rch p ev below _ T108 (mkF m 29 #[.val (.ref so), .val (.int p2), .val (.int (Int32.ofNat cN)), .unset] [(.int (1 : Int32)), (.int (1 : Int32)), (.ref so)])
  refine Rch.go (fun _ q => XS.iadd X108.here hx rfl (hb hby dad_29) rfl q) ?_
  show Rch p ev below _ T108 (mkF m 30 #[.val (.ref so), .val (.int p2), .val (.int (Int32.ofNat cN)), .unset] [(.int ((1 : Int32) + (1 : Int32))), (.ref so)])
  rw [show ((1 : Int32) + (1 : Int32)) = (2 : Int32) from (by decide)]
  show Rch p ev below _ T108 (mkF m 30 #[.val (.ref so), .val (.int p2), .val (.int (Int32.ofNat cN)), .unset] [(.int (2 : Int32)), (.ref so)])
  obtain ⟨T109, h109, X109, e109, W109, st109⟩ := putF X108 hx hZ hown (host := "") (Or.inl (hw _ (List.mem_of_getElem? (i := 31) rfl))) Via.refl e108 (WW107.2.1 2 _ _ _ rfl rfl) WW107.1 (Or.inl (hw _ (List.mem_of_getElem? (i := 32) rfl))) (hw _ (List.mem_of_getElem? (i := 8) rfl)) (ty := .int) (by decide) rfl rfl (g := (mkF m 30 #[.val (.ref so), .val (.int p2), .val (.int (Int32.ofNat cN)), .unset] [(.int (2 : Int32)), (.ref so)])) rfl rfl (hb hby dad_30)
  have N109 := Fr.snoc X109 N107 WW107.2.2.2.2.2.2.1.1
  have Z109 : n0 ≤ h109.size := by rw [W109.size]; exact WW107.2.2.2.2.2.2.1.2.2.2.2.2
  refine Rch.go st109 ?_
  show Rch p ev below _ T109 (mkF m 33 #[.val (.ref so), .val (.int p2), .val (.int (Int32.ofNat cN)), .unset] [])
  have WW109 : own_W Z h109 n0 so rs rt fs bs kr kt kf kb (rl.set 1 (.int p2)) (tl.set 1 (.int (Int32.ofNat ctN))) fl bl zl [(.ref rs), (.ref rt), (.int (2 : Int32)), (.int (Int32.ofNat ctN)), (.long sm), (.ref fs), (.int fc), (.int fr), (.ref bs), (.int bc), (.int br), (.int los), (.int lo), (.long gb), (.long ga)] := own_W_put hw WW107 2 rfl W109
  refine Rch.go (fun _ q => XS.aloadN X109.here hx rfl (hb hby dad_33) rfl rfl q) ?_
  show Rch p ev below _ T109 (mkF m 34 #[.val (.ref so), .val (.int p2), .val (.int (Int32.ofNat cN)), .unset] [(.ref so)])
  refine Rch.go (fun _ q => XS.dup X109.here hx rfl (hb hby dad_34) rfl rfl q) ?_
  show Rch p ev below _ T109 (mkF m 35 #[.val (.ref so), .val (.int p2), .val (.int (Int32.ofNat cN)), .unset] [(.ref so), (.ref so)])
  obtain ⟨T110, X110, e110, st110⟩ := getF X109 hx hZ hown (host := "") (Or.inl (hw _ (List.mem_of_getElem? (i := 33) rfl))) Via.refl e109 (WW109.2.1 3 _ _ _ rfl rfl) (g := (mkF m 35 #[.val (.ref so), .val (.int p2), .val (.int (Int32.ofNat cN)), .unset] [(.ref so), (.ref so)])) rfl rfl (hb hby dad_35)
  refine Rch.go st110 ?_
  show Rch p ev below _ T110 (mkF m 38 #[.val (.ref so), .val (.int p2), .val (.int (Int32.ofNat cN)), .unset] [(.int (Int32.ofNat ctN)), (.ref so)])
  refine Rch.go (fun _ q => XS.iloadN X110.here hx rfl (hb hby dad_38) rfl  q) ?_
  show Rch p ev below _ T110 (mkF m 39 #[.val (.ref so), .val (.int p2), .val (.int (Int32.ofNat cN)), .unset] [(.int (Int32.ofNat cN)), (.int (Int32.ofNat ctN)), (.ref so)])
  refine Rch.go (fun _ q => XS.iadd X110.here hx rfl (hb hby dad_39) rfl q) ?_
  show Rch p ev below _ T110 (mkF m 40 #[.val (.ref so), .val (.int p2), .val (.int (Int32.ofNat cN)), .unset] [(.int ((Int32.ofNat ctN) + (Int32.ofNat cN))), (.ref so)])
  rw [show (Int32.ofNat ctN + Int32.ofNat cN) = (Int32.ofNat (ctN + cN)) from (own_add_N (by omega))]
  show Rch p ev below _ T110 (mkF m 40 #[.val (.ref so), .val (.int p2), .val (.int (Int32.ofNat cN)), .unset] [(.int (Int32.ofNat (ctN + cN))), (.ref so)])
  obtain ⟨T111, h111, X111, e111, W111, st111⟩ := putF X110 hx hZ hown (host := "") (Or.inl (hw _ (List.mem_of_getElem? (i := 33) rfl))) Via.refl e110 (WW109.2.1 3 _ _ _ rfl rfl) WW109.1 (Or.inl (hw _ (List.mem_of_getElem? (i := 34) rfl))) (hw _ (List.mem_of_getElem? (i := 8) rfl)) (ty := .int) (by decide) rfl rfl (g := (mkF m 40 #[.val (.ref so), .val (.int p2), .val (.int (Int32.ofNat cN)), .unset] [(.int (Int32.ofNat (ctN + cN))), (.ref so)])) rfl rfl (hb hby dad_40)
  have N111 := Fr.snoc X111 N109 WW109.2.2.2.2.2.2.1.1
  have Z111 : n0 ≤ h111.size := by rw [W111.size]; exact WW109.2.2.2.2.2.2.1.2.2.2.2.2
  refine Rch.go st111 ?_
  show Rch p ev below _ T111 (mkF m 43 #[.val (.ref so), .val (.int p2), .val (.int (Int32.ofNat cN)), .unset] [])
  have WW111 : own_W Z h111 n0 so rs rt fs bs kr kt kf kb (rl.set 1 (.int p2)) (tl.set 1 (.int (Int32.ofNat ctN))) fl bl zl [(.ref rs), (.ref rt), (.int (2 : Int32)), (.int (Int32.ofNat (ctN + cN))), (.long sm), (.ref fs), (.int fc), (.int fr), (.ref bs), (.int bc), (.int br), (.int los), (.int lo), (.long gb), (.long ga)] := own_W_put hw WW109 3 rfl W111
  refine Rch.go (fun _ q => XS.aloadN X111.here hx rfl (hb hby dad_43) rfl rfl q) ?_
  show Rch p ev below _ T111 (mkF m 44 #[.val (.ref so), .val (.int p2), .val (.int (Int32.ofNat cN)), .unset] [(.ref so)])
  refine Rch.go (fun _ q => XS.dup X111.here hx rfl (hb hby dad_44) rfl rfl q) ?_
  show Rch p ev below _ T111 (mkF m 45 #[.val (.ref so), .val (.int p2), .val (.int (Int32.ofNat cN)), .unset] [(.ref so), (.ref so)])
  obtain ⟨T112, X112, e112, st112⟩ := getF X111 hx hZ hown (host := "") (Or.inl (hw _ (List.mem_of_getElem? (i := 35) rfl))) Via.refl e111 (WW111.2.1 4 _ _ _ rfl rfl) (g := (mkF m 45 #[.val (.ref so), .val (.int p2), .val (.int (Int32.ofNat cN)), .unset] [(.ref so), (.ref so)])) rfl rfl (hb hby dad_45)
  refine Rch.go st112 ?_
  show Rch p ev below _ T112 (mkF m 48 #[.val (.ref so), .val (.int p2), .val (.int (Int32.ofNat cN)), .unset] [(.long sm), (.ref so)])
  refine Rch.go (fun _ q => XS.iloadN X112.here hx rfl (hb hby dad_48) rfl  q) ?_
  show Rch p ev below _ T112 (mkF m 49 #[.val (.ref so), .val (.int p2), .val (.int (Int32.ofNat cN)), .unset] [(.int p2), (.long sm), (.ref so)])
  refine Rch.go (fun _ q => XS.i2l X112.here hx rfl (hb hby dad_49) rfl q) ?_
  show Rch p ev below _ T112 (mkF m 50 #[.val (.ref so), .val (.int p2), .val (.int (Int32.ofNat cN)), .unset] [(.long (p2.toInt64)), (.long sm), (.ref so)])
  refine Rch.go (fun _ q => XS.iloadN X112.here hx rfl (hb hby dad_50) rfl  q) ?_
  show Rch p ev below _ T112 (mkF m 51 #[.val (.ref so), .val (.int p2), .val (.int (Int32.ofNat cN)), .unset] [(.int (Int32.ofNat cN)), (.long (p2.toInt64)), (.long sm), (.ref so)])
  refine Rch.go (fun _ q => XS.i2l X112.here hx rfl (hb hby dad_51) rfl q) ?_
  show Rch p ev below _ T112 (mkF m 52 #[.val (.ref so), .val (.int p2), .val (.int (Int32.ofNat cN)), .unset] [(.long ((Int32.ofNat cN).toInt64)), (.long (p2.toInt64)), (.long sm), (.ref so)])
  refine Rch.go (fun _ q => XS.lmul X112.here hx rfl (hb hby dad_52) rfl q) ?_
  show Rch p ev below _ T112 (mkF m 53 #[.val (.ref so), .val (.int p2), .val (.int (Int32.ofNat cN)), .unset] [(.long ((p2.toInt64) * ((Int32.ofNat cN).toInt64))), (.long sm), (.ref so)])
  refine Rch.go (fun _ q => XS.ladd X112.here hx rfl (hb hby dad_53) rfl q) ?_
  show Rch p ev below _ T112 (mkF m 54 #[.val (.ref so), .val (.int p2), .val (.int (Int32.ofNat cN)), .unset] [(.long (sm + ((p2.toInt64) * ((Int32.ofNat cN).toInt64)))), (.ref so)])
  obtain ⟨T113, h113, X113, e113, W113, st113⟩ := putF X112 hx hZ hown (host := "") (Or.inl (hw _ (List.mem_of_getElem? (i := 35) rfl))) Via.refl e112 (WW111.2.1 4 _ _ _ rfl rfl) WW111.1 (Or.inl (hw _ (List.mem_of_getElem? (i := 36) rfl))) (hw _ (List.mem_of_getElem? (i := 8) rfl)) (ty := .long) (by decide) rfl rfl (g := (mkF m 54 #[.val (.ref so), .val (.int p2), .val (.int (Int32.ofNat cN)), .unset] [(.long (sm + ((p2.toInt64) * ((Int32.ofNat cN).toInt64)))), (.ref so)])) rfl rfl (hb hby dad_54)
  have N113 := Fr.snoc X113 N111 WW111.2.2.2.2.2.2.1.1
  have Z113 : n0 ≤ h113.size := by rw [W113.size]; exact WW111.2.2.2.2.2.2.1.2.2.2.2.2
  refine Rch.go st113 ?_
  show Rch p ev below _ T113 (mkF m 57 #[.val (.ref so), .val (.int p2), .val (.int (Int32.ofNat cN)), .unset] [])
  have WW113 : own_W Z h113 n0 so rs rt fs bs kr kt kf kb (rl.set 1 (.int p2)) (tl.set 1 (.int (Int32.ofNat ctN))) fl bl zl [(.ref rs), (.ref rt), (.int (2 : Int32)), (.int (Int32.ofNat (ctN + cN))), (.long (sm + ((p2.toInt64) * ((Int32.ofNat cN).toInt64)))), (.ref fs), (.int fc), (.int fr), (.ref bs), (.int bc), (.int br), (.int los), (.int lo), (.long gb), (.long ga)] := own_W_put hw WW111 4 rfl W113
  refine Rch.go (fun _ q => XS.aloadN X113.here hx rfl (hb hby dad_57) rfl rfl q) ?_
  show Rch p ev below _ T113 (mkF m 58 #[.val (.ref so), .val (.int p2), .val (.int (Int32.ofNat cN)), .unset] [(.ref so)])
  refine Rch.go (fun _ q => XS.iconst X113.here hx rfl (hb hby dad_58) q) ?_
  show Rch p ev below _ T113 (mkF m 59 #[.val (.ref so), .val (.int p2), .val (.int (Int32.ofNat cN)), .unset] [(.int (0 : Int32)), (.ref so)])
  obtain ⟨T114, h114, X114, e114, W114, st114⟩ := putF X113 hx hZ hown (host := "") (Or.inl (hw _ (List.mem_of_getElem? (i := 37) rfl))) Via.refl e113 (WW113.2.1 9 _ _ _ rfl rfl) WW113.1 (Or.inl (hw _ (List.mem_of_getElem? (i := 38) rfl))) (hw _ (List.mem_of_getElem? (i := 8) rfl)) (ty := .int) (by decide) rfl rfl (g := (mkF m 59 #[.val (.ref so), .val (.int p2), .val (.int (Int32.ofNat cN)), .unset] [(.int (0 : Int32)), (.ref so)])) rfl rfl (hb hby dad_59)
  have N114 := Fr.snoc X114 N113 WW113.2.2.2.2.2.2.1.1
  have Z114 : n0 ≤ h114.size := by rw [W114.size]; exact WW113.2.2.2.2.2.2.1.2.2.2.2.2
  refine Rch.go st114 ?_
  show Rch p ev below _ T114 (mkF m 62 #[.val (.ref so), .val (.int p2), .val (.int (Int32.ofNat cN)), .unset] [])
  have WW114 : own_W Z h114 n0 so rs rt fs bs kr kt kf kb (rl.set 1 (.int p2)) (tl.set 1 (.int (Int32.ofNat ctN))) fl bl zl [(.ref rs), (.ref rt), (.int (2 : Int32)), (.int (Int32.ofNat (ctN + cN))), (.long (sm + ((p2.toInt64) * ((Int32.ofNat cN).toInt64)))), (.ref fs), (.int fc), (.int fr), (.ref bs), (.int (0 : Int32)), (.int br), (.int los), (.int lo), (.long gb), (.long ga)] := own_W_put hw WW113 9 rfl W114
  refine Rch.go (fun _ q => XS.aloadN X114.here hx rfl (hb hby dad_62) rfl rfl q) ?_
  show Rch p ev below _ T114 (mkF m 63 #[.val (.ref so), .val (.int p2), .val (.int (Int32.ofNat cN)), .unset] [(.ref so)])
  refine Rch.go (fun _ q => XS.aloadN X114.here hx rfl (hb hby dad_63) rfl rfl q) ?_
  show Rch p ev below _ T114 (mkF m 64 #[.val (.ref so), .val (.int p2), .val (.int (Int32.ofNat cN)), .unset] [(.ref so), (.ref so)])
  obtain ⟨T115, X115, e115, st115⟩ := getF X114 hx hZ hown (host := "") (Or.inl (hw _ (List.mem_of_getElem? (i := 31) rfl))) Via.refl e114 (WW114.2.1 2 _ _ _ rfl rfl) (g := (mkF m 64 #[.val (.ref so), .val (.int p2), .val (.int (Int32.ofNat cN)), .unset] [(.ref so), (.ref so)])) rfl rfl (hb hby dad_64)
  refine Rch.go st115 ?_
  show Rch p ev below _ T115 (mkF m 67 #[.val (.ref so), .val (.int p2), .val (.int (Int32.ofNat cN)), .unset] [(.int (2 : Int32)), (.ref so)])
  refine Rch.go (fun _ q => XS.iconst X115.here hx rfl (hb hby dad_67) q) ?_
  show Rch p ev below _ T115 (mkF m 68 #[.val (.ref so), .val (.int p2), .val (.int (Int32.ofNat cN)), .unset] [(.int (1 : Int32)), (.int (2 : Int32)), (.ref so)])
  refine Rch.go (fun _ q => XS.isub X115.here hx rfl (hb hby dad_68) rfl q) ?_
  show Rch p ev below _ T115 (mkF m 69 #[.val (.ref so), .val (.int p2), .val (.int (Int32.ofNat cN)), .unset] [(.int ((2 : Int32) - (1 : Int32))), (.ref so)])
  rw [show ((2 : Int32) - (1 : Int32)) = (1 : Int32) from (by decide)]
  show Rch p ev below _ T115 (mkF m 69 #[.val (.ref so), .val (.int p2), .val (.int (Int32.ofNat cN)), .unset] [(.int (1 : Int32)), (.ref so)])
  obtain ⟨T116, h116, X116, e116, W116, st116⟩ := putF X115 hx hZ hown (host := "") (Or.inl (hw _ (List.mem_of_getElem? (i := 39) rfl))) Via.refl e115 (WW114.2.1 10 _ _ _ rfl rfl) WW114.1 (Or.inl (hw _ (List.mem_of_getElem? (i := 40) rfl))) (hw _ (List.mem_of_getElem? (i := 8) rfl)) (ty := .int) (by decide) rfl rfl (g := (mkF m 69 #[.val (.ref so), .val (.int p2), .val (.int (Int32.ofNat cN)), .unset] [(.int (1 : Int32)), (.ref so)])) rfl rfl (hb hby dad_69)
  have N116 := Fr.snoc X116 N114 WW114.2.2.2.2.2.2.1.1
  have Z116 : n0 ≤ h116.size := by rw [W116.size]; exact WW114.2.2.2.2.2.2.1.2.2.2.2.2
  refine Rch.go st116 ?_
  show Rch p ev below _ T116 (mkF m 72 #[.val (.ref so), .val (.int p2), .val (.int (Int32.ofNat cN)), .unset] [])
  have WW116 : own_W Z h116 n0 so rs rt fs bs kr kt kf kb (rl.set 1 (.int p2)) (tl.set 1 (.int (Int32.ofNat ctN))) fl bl zl [(.ref rs), (.ref rt), (.int (2 : Int32)), (.int (Int32.ofNat (ctN + cN))), (.long (sm + ((p2.toInt64) * ((Int32.ofNat cN).toInt64)))), (.ref fs), (.int fc), (.int fr), (.ref bs), (.int (0 : Int32)), (.int (1 : Int32)), (.int los), (.int lo), (.long gb), (.long ga)] := own_W_put hw WW114 10 rfl W116
  refine Rch.go (fun _ q => XS.aloadN X116.here hx rfl (hb hby dad_72) rfl rfl q) ?_
  show Rch p ev below _ T116 (mkF m 73 #[.val (.ref so), .val (.int p2), .val (.int (Int32.ofNat cN)), .unset] [(.ref so)])
  obtain ⟨T117, X117, e117, st117⟩ := getF X116 hx hZ hown (host := "") (Or.inl (hw _ (List.mem_of_getElem? (i := 33) rfl))) Via.refl e116 (WW116.2.1 3 _ _ _ rfl rfl) (g := (mkF m 73 #[.val (.ref so), .val (.int p2), .val (.int (Int32.ofNat cN)), .unset] [(.ref so)])) rfl rfl (hb hby dad_73)
  refine Rch.go st117 ?_
  show Rch p ev below _ T117 (mkF m 76 #[.val (.ref so), .val (.int p2), .val (.int (Int32.ofNat cN)), .unset] [(.int (Int32.ofNat (ctN + cN)))])
  refine Rch.go (fun _ q => XS.aloadN X117.here hx rfl (hb hby dad_76) rfl rfl q) ?_
  show Rch p ev below _ T117 (mkF m 77 #[.val (.ref so), .val (.int p2), .val (.int (Int32.ofNat cN)), .unset] [(.ref so), (.int (Int32.ofNat (ctN + cN)))])
  obtain ⟨T118, X118, e118, st118⟩ := getF X117 hx hZ hown (host := "") (Or.inl (hw _ (List.mem_of_getElem? (i := 17) rfl))) Via.refl e117 (WW116.2.1 5 _ _ _ rfl rfl) (g := (mkF m 77 #[.val (.ref so), .val (.int p2), .val (.int (Int32.ofNat cN)), .unset] [(.ref so), (.int (Int32.ofNat (ctN + cN)))])) rfl rfl (hb hby dad_77)
  refine Rch.go st118 ?_
  show Rch p ev below _ T118 (mkF m 80 #[.val (.ref so), .val (.int p2), .val (.int (Int32.ofNat cN)), .unset] [(.ref fs), (.int (Int32.ofNat (ctN + cN)))])
  refine Rch.go (fun _ q => lenA X118 hx hZ e118 WW116.2.2.2.2.1 (g := (mkF m 80 #[.val (.ref so), .val (.int p2), .val (.int (Int32.ofNat cN)), .unset] [(.ref fs), (.int (Int32.ofNat (ctN + cN)))])) rfl rfl (hb hby dad_80) _ q) ?_
  show Rch p ev below _ T118 (mkF m 81 #[.val (.ref so), .val (.int p2), .val (.int (Int32.ofNat cN)), .unset] [(.int zl), (.int (Int32.ofNat (ctN + cN)))])
  by_cases hc81 : (Int32.ofNat (ctN + cN)) < zl
  · skip
    refine Rch.go (fun _ q => XS.icmpYes X118.here hx rfl (pc0 := 81) (pc' := 125) rfl (hb hby dad_81) rfl (tlt hc81).1 (by decide) (by decide) q) ?_
    show Rch p ev below _ T118 (mkF m 125 #[.val (.ref so), .val (.int p2), .val (.int (Int32.ofNat cN)), .unset] [])
    refine Rch.retV X118 hx hlk Bd.returns (hb hby dad_125) (by decide) (by decide) ?_
    unfold Qrmad1
    rw [e118]
    exact ⟨rfl, N116, fs, bs, kf, kb, fl, bl, zl, WW116, by rw [Int32.lt_iff_toInt_lt, kc] at hc81; exact hc81, hz16, hfl, hbl, fun _ => rfl, fun _ => rfl⟩
  · skip
    refine Rch.go (fun _ q => XS.icmpNo X118.here hx rfl (hb hby dad_81) rfl (flt hc81).1 q) ?_
    show Rch p ev below _ T118 (mkF m 84 #[.val (.ref so), .val (.int p2), .val (.int (Int32.ofNat cN)), .unset] [])
    refine Rch.go (fun _ q => XS.aloadN X118.here hx rfl (hb hby dad_84) rfl rfl q) ?_
    show Rch p ev below _ T118 (mkF m 85 #[.val (.ref so), .val (.int p2), .val (.int (Int32.ofNat cN)), .unset] [(.ref so)])
    obtain ⟨T119, X119, e119, st119⟩ := getF X118 hx hZ hown (host := "") (Or.inl (hw _ (List.mem_of_getElem? (i := 33) rfl))) Via.refl e118 (WW116.2.1 3 _ _ _ rfl rfl) (g := (mkF m 85 #[.val (.ref so), .val (.int p2), .val (.int (Int32.ofNat cN)), .unset] [(.ref so)])) rfl rfl (hb hby dad_85)
    refine Rch.go st119 ?_
    show Rch p ev below _ T119 (mkF m 88 #[.val (.ref so), .val (.int p2), .val (.int (Int32.ofNat cN)), .unset] [(.int (Int32.ofNat (ctN + cN)))])
    refine Rch.go (fun _ q => XS.iconst X119.here hx rfl (hb hby dad_88) q) ?_
    show Rch p ev below _ T119 (mkF m 89 #[.val (.ref so), .val (.int p2), .val (.int (Int32.ofNat cN)), .unset] [(.int (1 : Int32)), (.int (Int32.ofNat (ctN + cN)))])
    refine Rch.go (fun _ q => XS.iadd X119.here hx rfl (hb hby dad_89) rfl q) ?_
    show Rch p ev below _ T119 (mkF m 90 #[.val (.ref so), .val (.int p2), .val (.int (Int32.ofNat cN)), .unset] [(.int ((Int32.ofNat (ctN + cN)) + (1 : Int32)))])
    refine Rch.go (fun _ q => XS.iconst X119.here hx rfl (hb hby dad_90) q) ?_
    show Rch p ev below _ T119 (mkF m 91 #[.val (.ref so), .val (.int p2), .val (.int (Int32.ofNat cN)), .unset] [(.int (2 : Int32)), (.int ((Int32.ofNat (ctN + cN)) + (1 : Int32)))])
    refine Rch.go (fun _ q => XS.aloadN X119.here hx rfl (hb hby dad_91) rfl rfl q) ?_
    show Rch p ev below _ T119 (mkF m 92 #[.val (.ref so), .val (.int p2), .val (.int (Int32.ofNat cN)), .unset] [(.ref so), (.int (2 : Int32)), (.int ((Int32.ofNat (ctN + cN)) + (1 : Int32)))])
    obtain ⟨T120, X120, e120, st120⟩ := getF X119 hx hZ hown (host := "") (Or.inl (hw _ (List.mem_of_getElem? (i := 17) rfl))) Via.refl e119 (WW116.2.1 5 _ _ _ rfl rfl) (g := (mkF m 92 #[.val (.ref so), .val (.int p2), .val (.int (Int32.ofNat cN)), .unset] [(.ref so), (.int (2 : Int32)), (.int ((Int32.ofNat (ctN + cN)) + (1 : Int32)))])) rfl rfl (hb hby dad_92)
    refine Rch.go st120 ?_
    show Rch p ev below _ T120 (mkF m 95 #[.val (.ref so), .val (.int p2), .val (.int (Int32.ofNat cN)), .unset] [(.ref fs), (.int (2 : Int32)), (.int ((Int32.ofNat (ctN + cN)) + (1 : Int32)))])
    refine Rch.go (fun _ q => lenA X120 hx hZ e120 WW116.2.2.2.2.1 (g := (mkF m 95 #[.val (.ref so), .val (.int p2), .val (.int (Int32.ofNat cN)), .unset] [(.ref fs), (.int (2 : Int32)), (.int ((Int32.ofNat (ctN + cN)) + (1 : Int32)))])) rfl rfl (hb hby dad_95) _ q) ?_
    show Rch p ev below _ T120 (mkF m 96 #[.val (.ref so), .val (.int p2), .val (.int (Int32.ofNat cN)), .unset] [(.int zl), (.int (2 : Int32)), (.int ((Int32.ofNat (ctN + cN)) + (1 : Int32)))])
    refine Rch.go (fun _ q => XS.imul X120.here hx rfl (hb hby dad_96) rfl q) ?_
    show Rch p ev below _ T120 (mkF m 97 #[.val (.ref so), .val (.int p2), .val (.int (Int32.ofNat cN)), .unset] [(.int ((2 : Int32) * zl)), (.int ((Int32.ofNat (ctN + cN)) + (1 : Int32)))])
    have hge : zl.toInt ≤ ((ctN + cN : Nat) : Int) := by have q := mt Int32.lt_iff_toInt_lt.mpr hc81; rw [kc] at q; omega
    have m2 := c_imul 2 zl
    have k2 : (2 : Int32).toInt = 2 := rfl
    rw [k2] at m2
    have r2 := rng32 ((2 : Int32) * zl)
    have m1 : (Int32.ofNat (ctN + cN) + (1 : Int32)).toInt = ((ctN + cN + 1 : Nat) : Int) := by rw [own_add1_N (by omega)]; exact own_ofN _ (by omega)
    obtain ⟨_, _, ⟨T121, L121, k121, n121⟩, -, X121, ⟨Lc121, hQ121, l121, y121, z121⟩, st121⟩ := Jvm.LawKit.callS X120 hx (y := (⟨"java/lang/Math", "max", "(II)I"⟩ : MethodName)) hown (mvT hZ (hw _ (List.mem_of_getElem? (i := 41) rfl))) (mvT hZ (hw _ (List.mem_of_getElem? (i := 42) rfl))) (mvT hZ (hw _ (List.mem_of_getElem? (i := 3) rfl))) (mvT hZ (hw _ (List.mem_of_getElem? (i := 43) rfl))) (by decide) (backOf (W := 0) (rmmx l Z a0 hw [] ((Int32.ofNat (ctN + cN)) + (1 : Int32)) ((2 : Int32) * zl) h116 n0 WW116.2.2.2.2.2.2.1.2.2.2.2.2) hZ (hw _ (List.mem_of_getElem? (i := 43) rfl)) (hw _ (List.mem_of_getElem? (i := 3) rfl)) (by decide) (by decide)) (g := (mkF m 97 #[.val (.ref so), .val (.int p2), .val (.int (Int32.ofNat cN)), .unset] [(.int ((2 : Int32) * zl)), (.int ((Int32.ofNat (ctN + cN)) + (1 : Int32)))])) rfl (by rw [hml]; rfl) (argsL := [(.int ((Int32.ofNat (ctN + cN)) + (1 : Int32))), (.int ((2 : Int32) * zl))]) (rest := []) (lenOf own_pd0 rfl) rfl (by show 2 * 0 + _ ≤ _; exact Nat.le_of_eq rfl) (hb hby dad_97) (fun _ _ => ⟨rfl, e120, (by decide : 0 + 0 ≤ _), (by decide : 0 + 0 ≤ _)⟩)
    dsimp only [Pt.U, Pt.locs, Pt.cells, Pt.slots] at X121 l121 y121 z121 st121 hQ121
    subst l121 y121 z121
    obtain ⟨rfl, Nc, ec⟩ := hQ121
    refine Rch.go st121 ?_
    show Rch p ev below _ T121 (mkF m 100 #[.val (.ref so), .val (.int p2), .val (.int (Int32.ofNat cN)), .unset] [(.int (own_max ((Int32.ofNat (ctN + cN)) + (1 : Int32)) ((2 : Int32) * zl)))])
    have N121 := Fr.app N116 Nc
    have e121 := ec
    have hmx : ((ctN + cN : Nat) : Int) < (own_max ((Int32.ofNat (ctN + cN)) + (1 : Int32)) ((2 : Int32) * zl)).toInt ∧ zl.toInt < (own_max ((Int32.ofNat (ctN + cN)) + (1 : Int32)) ((2 : Int32) * zl)).toInt ∧ (own_max ((Int32.ofNat (ctN + cN)) + (1 : Int32)) ((2 : Int32) * zl)).toInt ≤ 16 := by unfold own_max; split <;> rename_i hh <;> rw [Int32.lt_iff_toInt_lt] at hh <;> omega
    obtain ⟨nl, g_nl⟩ : ∃ q, q = (own_max ((Int32.ofNat (ctN + cN)) + (1 : Int32)) ((2 : Int32) * zl)) := ⟨_, rfl⟩
    rw [← g_nl]
    show Rch p ev below _ T121 (mkF m 100 #[.val (.ref so), .val (.int p2), .val (.int (Int32.ofNat cN)), .unset] [(.int nl)])
    rw [← g_nl] at hmx
    refine Rch.go (fun _ q => XS.istoreN X121.here hx rfl (hb hby dad_100) rfl (l' := #[.val (.ref so), .val (.int p2), .val (.int (Int32.ofNat cN)), .val (.int nl)]) rfl q) ?_
    show Rch p ev below _ T121 (mkF m 101 #[.val (.ref so), .val (.int p2), .val (.int (Int32.ofNat cN)), .val (.int nl)] [])
    refine Rch.go (fun _ q => XS.aloadN X121.here hx rfl (hb hby dad_101) rfl rfl q) ?_
    show Rch p ev below _ T121 (mkF m 102 #[.val (.ref so), .val (.int p2), .val (.int (Int32.ofNat cN)), .val (.int nl)] [(.ref so)])
    refine Rch.go (fun _ q => XS.aloadN X121.here hx rfl (hb hby dad_102) rfl rfl q) ?_
    show Rch p ev below _ T121 (mkF m 103 #[.val (.ref so), .val (.int p2), .val (.int (Int32.ofNat cN)), .val (.int nl)] [(.ref so), (.ref so)])
    obtain ⟨T122, X122, e122, st122⟩ := getF X121 hx hZ hown (host := "") (Or.inl (hw _ (List.mem_of_getElem? (i := 17) rfl))) Via.refl e121 (WW116.2.1 5 _ _ _ rfl rfl) (g := (mkF m 103 #[.val (.ref so), .val (.int p2), .val (.int (Int32.ofNat cN)), .val (.int nl)] [(.ref so), (.ref so)])) rfl rfl (hb hby dad_103)
    refine Rch.go st122 ?_
    show Rch p ev below _ T122 (mkF m 106 #[.val (.ref so), .val (.int p2), .val (.int (Int32.ofNat cN)), .val (.int nl)] [(.ref fs), (.ref so)])
    refine Rch.go (fun _ q => XS.iloadN X122.here hx rfl (hb hby dad_106) rfl  q) ?_
    show Rch p ev below _ T122 (mkF m 107 #[.val (.ref so), .val (.int p2), .val (.int (Int32.ofNat cN)), .val (.int nl)] [(.int nl), (.ref fs), (.ref so)])
    obtain ⟨_, _, ⟨T123, L123, k123, n123⟩, -, X123, ⟨Lc123, hQ123, l123, y123, z123⟩, st123⟩ := Jvm.LawKit.callS X122 hx (y := (⟨"java/util/Arrays", "copyOf", "([JI)[J"⟩ : MethodName)) hown (mvT hZ (hw _ (List.mem_of_getElem? (i := 44) rfl))) (mvT hZ (hw _ (List.mem_of_getElem? (i := 45) rfl))) (mvT hZ (hw _ (List.mem_of_getElem? (i := 46) rfl))) (mvT hZ (hw _ (List.mem_of_getElem? (i := 47) rfl))) (by decide) (backOf (W := 1) (rmcp l Z a0 hw [] fs nl kf zl fl h116 n0 WW116.2.2.2.2.2.2.1.2.2.2.2.2 WW116.2.2.2.2.1 hfl (by omega) hmx.2.1 hmx.2.2) hZ (hw _ (List.mem_of_getElem? (i := 47) rfl)) (hw _ (List.mem_of_getElem? (i := 46) rfl)) (by decide) (by decide)) (g := (mkF m 107 #[.val (.ref so), .val (.int p2), .val (.int (Int32.ofNat cN)), .val (.int nl)] [(.int nl), (.ref fs), (.ref so)])) rfl (by rw [hml]; rfl) (argsL := [(.ref fs), (.int nl)]) (rest := [(.ref so)]) (lenOf own_pd1 rfl) rfl (by show 2 * 0 + _ ≤ _; exact Nat.le_of_eq rfl) (hb hby dad_107) (fun _ _ => ⟨rfl, e122, (by decide : 0 + 1 ≤ _), (by decide : 0 + 16 ≤ _)⟩)
    dsimp only [Pt.U, Pt.locs, Pt.cells, Pt.slots] at X123 l123 y123 z123 st123 hQ123
    subst l123 y123 z123
    obtain ⟨fs2, kf2, fl2, rfl, Nc, gef, gsf, Zc, Kc, Vf2, hlf2, huf⟩ := hQ123
    refine Rch.go st123 ?_
    show Rch p ev below _ T123 (mkF m 110 #[.val (.ref so), .val (.int p2), .val (.int (Int32.ofNat cN)), .val (.int nl)] [(.ref fs2), (.ref so)])
    have N123 := Fr.app N121 Nc
    have WK123 := own_W_keep WW116 Kc
    have q1 : so ≠ fs2 := Nat.ne_of_lt (Nat.lt_of_lt_of_le (Exa.lt WW116.1) gsf)
    have q2 : rs ≠ fs2 := Nat.ne_of_lt (Nat.lt_of_lt_of_le (Arv.lt WW116.2.2.1) gsf)
    have q3 : rt ≠ fs2 := Nat.ne_of_lt (Nat.lt_of_lt_of_le (Arv.lt WW116.2.2.2.1) gsf)
    have q4 : fs2 ≠ bs := (Nat.ne_of_lt (Nat.lt_of_lt_of_le (Arv.lt WW116.2.2.2.2.2.1) gsf)).symm
    obtain ⟨T124, h124, X124, e124, W124, st124⟩ := putF X123 hx hZ hown (host := "") (Or.inl (hw _ (List.mem_of_getElem? (i := 17) rfl))) Via.refl rfl (WK123.2.1 5 _ _ _ rfl rfl) WK123.1 (Or.inl (hw _ (List.mem_of_getElem? (i := 18) rfl))) (hw _ (List.mem_of_getElem? (i := 8) rfl)) (ty := (.array .long)) (by decide) rfl rfl (g := (mkF m 110 #[.val (.ref so), .val (.int p2), .val (.int (Int32.ofNat cN)), .val (.int nl)] [(.ref fs2), (.ref so)])) rfl rfl (hb hby dad_110)
    have N124 := Fr.snoc X124 N123 WK123.2.2.2.2.2.2.1.1
    have Z124 : n0 ≤ h124.size := by rw [W124.size]; exact Zc
    refine Rch.go st124 ?_
    show Rch p ev below _ T124 (mkF m 113 #[.val (.ref so), .val (.int p2), .val (.int (Int32.ofNat cN)), .val (.int nl)] [])
    have WW124 : own_W Z h124 n0 so rs rt fs bs kr kt kf kb (rl.set 1 (.int p2)) (tl.set 1 (.int (Int32.ofNat ctN))) fl bl zl [(.ref rs), (.ref rt), (.int (2 : Int32)), (.int (Int32.ofNat (ctN + cN))), (.long (sm + ((p2.toInt64) * ((Int32.ofNat cN).toInt64)))), (.ref fs2), (.int fc), (.int fr), (.ref bs), (.int (0 : Int32)), (.int (1 : Int32)), (.int los), (.int lo), (.long gb), (.long ga)] := own_W_put hw WK123 5 rfl W124
    have Vf3 := Arv.other Vf2 W124 q1.symm
    refine Rch.go (fun _ q => XS.aloadN X124.here hx rfl (hb hby dad_113) rfl rfl q) ?_
    show Rch p ev below _ T124 (mkF m 114 #[.val (.ref so), .val (.int p2), .val (.int (Int32.ofNat cN)), .val (.int nl)] [(.ref so)])
    refine Rch.go (fun _ q => XS.aloadN X124.here hx rfl (hb hby dad_114) rfl rfl q) ?_
    show Rch p ev below _ T124 (mkF m 115 #[.val (.ref so), .val (.int p2), .val (.int (Int32.ofNat cN)), .val (.int nl)] [(.ref so), (.ref so)])
    obtain ⟨T125, X125, e125, st125⟩ := getF X124 hx hZ hown (host := "") (Or.inl (hw _ (List.mem_of_getElem? (i := 19) rfl))) Via.refl e124 (WW124.2.1 8 _ _ _ rfl rfl) (g := (mkF m 115 #[.val (.ref so), .val (.int p2), .val (.int (Int32.ofNat cN)), .val (.int nl)] [(.ref so), (.ref so)])) rfl rfl (hb hby dad_115)
    refine Rch.go st125 ?_
    show Rch p ev below _ T125 (mkF m 118 #[.val (.ref so), .val (.int p2), .val (.int (Int32.ofNat cN)), .val (.int nl)] [(.ref bs), (.ref so)])
    refine Rch.go (fun _ q => XS.iloadN X125.here hx rfl (hb hby dad_118) rfl  q) ?_
    show Rch p ev below _ T125 (mkF m 119 #[.val (.ref so), .val (.int p2), .val (.int (Int32.ofNat cN)), .val (.int nl)] [(.int nl), (.ref bs), (.ref so)])
    obtain ⟨_, _, ⟨T126, L126, k126, n126⟩, -, X126, ⟨Lc126, hQ126, l126, y126, z126⟩, st126⟩ := Jvm.LawKit.callS X125 hx (y := (⟨"java/util/Arrays", "copyOf", "([JI)[J"⟩ : MethodName)) hown (mvT hZ (hw _ (List.mem_of_getElem? (i := 44) rfl))) (mvT hZ (hw _ (List.mem_of_getElem? (i := 45) rfl))) (mvT hZ (hw _ (List.mem_of_getElem? (i := 46) rfl))) (mvT hZ (hw _ (List.mem_of_getElem? (i := 47) rfl))) (by decide) (backOf (W := 1) (rmcp l Z a0 hw [] bs nl kb zl bl h124 n0 WW124.2.2.2.2.2.2.1.2.2.2.2.2 WW124.2.2.2.2.2.1 hbl (by omega) hmx.2.1 hmx.2.2) hZ (hw _ (List.mem_of_getElem? (i := 47) rfl)) (hw _ (List.mem_of_getElem? (i := 46) rfl)) (by decide) (by decide)) (g := (mkF m 119 #[.val (.ref so), .val (.int p2), .val (.int (Int32.ofNat cN)), .val (.int nl)] [(.int nl), (.ref bs), (.ref so)])) rfl (by rw [hml]; rfl) (argsL := [(.ref bs), (.int nl)]) (rest := [(.ref so)]) (lenOf own_pd1 rfl) rfl (by show 2 * 0 + _ ≤ _; exact Nat.le_of_eq rfl) (hb hby dad_119) (fun _ _ => ⟨rfl, e125, (by decide : 1 + 1 ≤ _), (by decide : 16 + 16 ≤ _)⟩)
    dsimp only [Pt.U, Pt.locs, Pt.cells, Pt.slots] at X126 l126 y126 z126 st126 hQ126
    subst l126 y126 z126
    obtain ⟨bs2, kb2, bl2, rfl, Nc, geb, gsb, Zc, Kc, Vb2, hlb2, hub⟩ := hQ126
    refine Rch.go st126 ?_
    show Rch p ev below _ T126 (mkF m 122 #[.val (.ref so), .val (.int p2), .val (.int (Int32.ofNat cN)), .val (.int nl)] [(.ref bs2), (.ref so)])
    have N126 := Fr.app N124 Nc
    have WK126 := own_W_keep WW124 Kc
    have Vf4 := Arv.keep Vf3 Kc nin0
    have q5 : so ≠ bs2 := Nat.ne_of_lt (Nat.lt_of_lt_of_le (Exa.lt WW124.1) gsb)
    have q6 : rs ≠ bs2 := Nat.ne_of_lt (Nat.lt_of_lt_of_le (Arv.lt WW124.2.2.1) gsb)
    have q7 : rt ≠ bs2 := Nat.ne_of_lt (Nat.lt_of_lt_of_le (Arv.lt WW124.2.2.2.1) gsb)
    have q8 : fs2 ≠ bs2 := Nat.ne_of_lt (Nat.lt_of_lt_of_le (Arv.lt Vf3) gsb)
    obtain ⟨T127, h127, X127, e127, W127, st127⟩ := putF X126 hx hZ hown (host := "") (Or.inl (hw _ (List.mem_of_getElem? (i := 19) rfl))) Via.refl rfl (WK126.2.1 8 _ _ _ rfl rfl) WK126.1 (Or.inl (hw _ (List.mem_of_getElem? (i := 20) rfl))) (hw _ (List.mem_of_getElem? (i := 8) rfl)) (ty := (.array .long)) (by decide) rfl rfl (g := (mkF m 122 #[.val (.ref so), .val (.int p2), .val (.int (Int32.ofNat cN)), .val (.int nl)] [(.ref bs2), (.ref so)])) rfl rfl (hb hby dad_122)
    have N127 := Fr.snoc X127 N126 WK126.2.2.2.2.2.2.1.1
    have Z127 : n0 ≤ h127.size := by rw [W127.size]; exact Zc
    refine Rch.go st127 ?_
    show Rch p ev below _ T127 (mkF m 125 #[.val (.ref so), .val (.int p2), .val (.int (Int32.ofNat cN)), .val (.int nl)] [])
    have WW127 : own_W Z h127 n0 so rs rt fs bs kr kt kf kb (rl.set 1 (.int p2)) (tl.set 1 (.int (Int32.ofNat ctN))) fl bl zl [(.ref rs), (.ref rt), (.int (2 : Int32)), (.int (Int32.ofNat (ctN + cN))), (.long (sm + ((p2.toInt64) * ((Int32.ofNat cN).toInt64)))), (.ref fs2), (.int fc), (.int fr), (.ref bs2), (.int (0 : Int32)), (.int (1 : Int32)), (.int los), (.int lo), (.long gb), (.long ga)] := own_W_put hw WK126 8 rfl W127
    have Vf5 := Arv.other Vf4 W127 q1.symm
    have Vb5 := Arv.other Vb2 W127 q5.symm
    obtain ⟨EE, FF, VR, VT, -, -, ⟨l1, l2, l3, -, -, l6⟩, n1, n2, -, -, n5, -⟩ := WW127
    refine Rch.retV X127 hx hlk Bd.returns (hb hby dad_125) (by decide) (by decide) ?_
    unfold Qrmad1
    rw [e127]
    exact ⟨rfl, N127, fs2, bs2, kf2, kb2, fl2, bl2, nl, ⟨EE, FF, VR, VT, Vf5, Vb5, ⟨l1, l2, l3, gef, geb, l6⟩, n1, n2, q1, q5, n5, q2, q6, q3, q7, q8⟩, hmx.1, hmx.2.2, hlf2, hlb2, huf, hub⟩
theorem own_pn16 : plainFor (⟨"com/example/binflow/binflow/solve/SubsetSums", "<init>", "(I)V"⟩ : MethodName) = true := by first | exact plainFor_of_name (by first | (simp [plainName, overriddenIn]; done) | decide +kernel) | decide +kernel
theorem own_pd11 : parseMethodDescriptor "(I)V" = some ⟨[.int], none⟩ := by decide +kernel
theorem dci_0 : decode prog_23_method_1_code 0 = .ok (.aload_n 0, 1) := by decide +kernel
theorem dci_1 : decode prog_23_method_1_code 1 = .ok (.invokespecial 1, 3) := by decide +kernel
theorem dci_4 : decode prog_23_method_1_code 4 = .ok (.aload_n 0, 1) := by decide +kernel
theorem dci_5 : decode prog_23_method_1_code 5 = .ok (.iconst 1, 1) := by decide +kernel
theorem dci_6 : decode prog_23_method_1_code 6 = .ok (.newarray .long, 2) := by decide +kernel
theorem dci_8 : decode prog_23_method_1_code 8 = .ok (.putfield 7, 3) := by decide +kernel
theorem dci_11 : decode prog_23_method_1_code 11 = .ok (.aload_n 0, 1) := by decide +kernel
theorem dci_12 : decode prog_23_method_1_code 12 = .ok (.iconst 1, 1) := by decide +kernel
theorem dci_13 : decode prog_23_method_1_code 13 = .ok (.newarray .long, 2) := by decide +kernel
theorem dci_15 : decode prog_23_method_1_code 15 = .ok (.putfield 13, 3) := by decide +kernel
theorem dci_18 : decode prog_23_method_1_code 18 = .ok (.aload_n 0, 1) := by decide +kernel
theorem dci_19 : decode prog_23_method_1_code 19 = .ok (.iload_n 1, 1) := by decide +kernel
theorem dci_20 : decode prog_23_method_1_code 20 = .ok (.newarray .int, 2) := by decide +kernel
theorem dci_22 : decode prog_23_method_1_code 22 = .ok (.putfield 16, 3) := by decide +kernel
theorem dci_25 : decode prog_23_method_1_code 25 = .ok (.aload_n 0, 1) := by decide +kernel
theorem dci_26 : decode prog_23_method_1_code 26 = .ok (.iload_n 1, 1) := by decide +kernel
theorem dci_27 : decode prog_23_method_1_code 27 = .ok (.newarray .int, 2) := by decide +kernel
theorem dci_29 : decode prog_23_method_1_code 29 = .ok (.putfield 20, 3) := by decide +kernel
theorem dci_32 : decode prog_23_method_1_code 32 = .ok (.return_, 1) := by decide +kernel
theorem own_ef22 (m : MethodId) (x0 : Addr) (x1 : Int32) : entryFrame m #[(.ref x0), (.int x1)] 2 = mkF m 0 #[.val (.ref x0), .val (.int x1)] [] := by first | (simp [entryFrame, mkF, argsToLocals, Value.category, maxLocals]; done) | rfl
def Qrmci (Z : State) (so : Addr)  (h0 : Heap) (n0 : Nat) : Option Value → Heap → List Loc → Prop := fun v h L => v = none ∧ Fr n0 L ∧ ∃ (rs rt fs bs : Addr) (kr kt kf kb : ClassId), own_W Z h n0 so rs rt fs bs kr kt kf kb [(.int 0), (.int 0)] [(.int 0), (.int 0)] [(.long 0)] [(.long 0)] 1 [(.ref rs), (.ref rt), (.int 0), (.int 0), (.long 0), (.ref fs), (.int 0), (.int 0), (.ref bs), (.int 0), (.int 0), (.int 0), (.int 0), (.long 0), (.long 0)]
set_option maxRecDepth 65536 in
set_option maxHeartbeats 40000000 in
theorem rmci (l : Launch) (Z : State) (a0 : Array Value) (hw : ∀ d ∈ tables_1, d.before a0 Z = true) (ws : List Jvm.Cond) (so : Addr)  (h0 : Heap) (n0 : Nat) (Z0 : n0 ≤ h0.size) (FL : own_FL Z h0 so [.null, .null, (.int 0), (.int 0), (.long 0), .null, (.int 0), (.int 0), .null, (.int 0), (.int 0), (.int 0), (.int 0), (.long 0), (.long 0)]) (E1 : Exa Z h0 so "com/example/binflow/binflow/solve/SubsetSums") (g1 : n0 ≤ so) :
    MetFree l (⟨"com/example/binflow/binflow/solve/SubsetSums", "<init>", "(I)V"⟩ : MethodName) (head1 (Jvm.Cond.code (⟨"com/example/binflow/binflow/solve/SubsetSums", "<init>", "(I)V"⟩ : MethodName) prog_23_method_1_code 2 none :: ws) ({ frames := 1, cells := 4, slots := 6, locals := 12 } : Room)) (fun a U => a = #[(.ref so), (.int (2 : Int32))] ∧ Z.Warmed39 U.vm ∧ U.heap = h0) (fun _ _ _ _ _ => True) (fun _ U o U' => ∃ v L, o = .returned v ∧ (Qrmci Z so  h0 n0) v U'.heap L ∧ FrameEnd U o U' L ({ frames := 1, cells := 4, slots := 6, locals := 12 } : Room).cells ({ frames := 1, cells := 4, slots := 6, locals := 12 } : Room).slots) := by
  refine MetFree.of_bodySF own_pn16 hisR ?_
  intro p ev s m args below meth c s₁ Bd hml0 hP hK
  obtain ⟨rfl, hZ, hh⟩ := hP
  have hx := Bd.exec
  have hby := Bd.bytes
  have hlk := Bd.notSynchronized
  have hml : c.maxLocals = 2 := hml0
  have hown : s.vm.findClass "com/example/binflow/binflow/solve/SubsetSums" = some m.cls := findClass_of_methodNamed Bd.named
  have hnm := (name_of_methodNamed Bd.named Bd.method).1
  have X0 : Stand p l ev ({ frames := 1, cells := 4, slots := 6, locals := 12 } : Room) s m #[(.ref so), (.int (2 : Int32))] below meth c s₁ [] 0 0 := Stand.of_body Bd
  have e0 : s₁.heap = h0 := by rw [← hh, Bd.state]; rfl
  have N0 := Fr.nil n0
  refine Rch.entry (G := (EndQ (Qrmci Z so  h0 n0) s ({ frames := 1, cells := 4, slots := 6, locals := 12 } : Room).cells ({ frames := 1, cells := 4, slots := 6, locals := 12 } : Room).slots)) (own_ef22 m so (2 : Int32)) ?_
  show Rch p ev below _ s₁ (mkF m 0 #[.val (.ref so), .val (.int (2 : Int32))] [])
  refine Rch.go (fun _ q => XS.aloadN X0.here hx rfl (hb hby dci_0) rfl rfl q) ?_
  show Rch p ev below _ s₁ (mkF m 1 #[.val (.ref so), .val (.int (2 : Int32))] [(.ref so)])
  obtain ⟨T101, X101, e101, st101⟩ := initO X0 hx hZ hown (hw _ (List.mem_of_getElem? (i := 13) rfl)) (hw _ (List.mem_of_getElem? (i := 14) rfl)) (hw _ (List.mem_of_getElem? (i := 15) rfl)) e0 (g := (mkF m 1 #[.val (.ref so), .val (.int (2 : Int32))] [(.ref so)])) rfl (by rw [hml]; rfl) rfl (hb hby dci_1) (by decide) (W := 0) (by show 2 * 0 + _ ≤ _; exact Nat.le_of_eq rfl) (by decide)
  refine Rch.go st101 ?_
  show Rch p ev below _ T101 (mkF m 4 #[.val (.ref so), .val (.int (2 : Int32))] [])
  refine Rch.go (fun _ q => XS.aloadN X101.here hx rfl (hb hby dci_4) rfl rfl q) ?_
  show Rch p ev below _ T101 (mkF m 5 #[.val (.ref so), .val (.int (2 : Int32))] [(.ref so)])
  refine Rch.go (fun _ q => XS.iconst X101.here hx rfl (hb hby dci_5) q) ?_
  show Rch p ev below _ T101 (mkF m 6 #[.val (.ref so), .val (.int (2 : Int32))] [(.int (1 : Int32)), (.ref so)])
  obtain ⟨T102, h102, kk_fs, X102, e102, E102, V102, st102⟩ := naw X101 hx hZ (hw _ (List.mem_of_getElem? (i := 16) rfl)) e101 (g := (mkF m 6 #[.val (.ref so), .val (.int (2 : Int32))] [(.int (1 : Int32)), (.ref so)])) rfl (hb hby dci_6) rfl (by decide) 1 (cap := 1) (by decide) (by decide) (by decide) (by decide)
  obtain ⟨fs, g102⟩ : ∃ q, q = Array.size h0 := ⟨_, rfl⟩
  rw [← g102] at V102 st102
  have V_fs_102 : Arv Z h102 fs kk_fs .long 1 [(.long 0)] (.long 0) := V102
  have le_fs : n0 ≤ fs := by rw [g102]; exact Z0
  have Z102 : n0 ≤ h102.size := Nat.le_trans Z0 E102.1
  refine Rch.go st102 ?_
  show Rch p ev below _ T102 (mkF m 8 #[.val (.ref so), .val (.int (2 : Int32))] [(.ref fs), (.ref so)])
  have FL102 : own_FL Z h102 so [.null, .null, (.int 0), (.int 0), (.long 0), .null, (.int 0), (.int 0), .null, (.int 0), (.int 0), (.int 0), (.int 0), (.long 0), (.long 0)] := fun i nm d v a b => (FL i nm d v a b).ext E102
  have EX102 := E1.ext E102
  have ne_so_fs : so ≠ fs := Nat.ne_of_lt (by rw [g102]; exact E1.lt)
  obtain ⟨T103, h103, X103, e103, W103, st103⟩ := putF X102 hx hZ hown (host := "") (Or.inl (hw _ (List.mem_of_getElem? (i := 17) rfl))) Via.refl e102 (FL102 5 _ _ _ rfl rfl) EX102 (Or.inl (hw _ (List.mem_of_getElem? (i := 18) rfl))) (hw _ (List.mem_of_getElem? (i := 8) rfl)) (ty := (.array .long)) (by decide) rfl rfl (g := (mkF m 8 #[.val (.ref so), .val (.int (2 : Int32))] [(.ref fs), (.ref so)])) rfl rfl (hb hby dci_8)
  have N103 := Fr.snoc X103 N0 g1
  have Z103 : n0 ≤ h103.size := by rw [W103.size]; exact Z102
  refine Rch.go st103 ?_
  show Rch p ev below _ T103 (mkF m 11 #[.val (.ref so), .val (.int (2 : Int32))] [])
  have FL103 : own_FL Z h103 so [.null, .null, (.int 0), (.int 0), (.long 0), (.ref fs), (.int 0), (.int 0), .null, (.int 0), (.int 0), (.int 0), (.int 0), (.long 0), (.long 0)] := own_FL_put hw FL102 5 rfl W103
  have EX103 := EX102.wr W103
  have V_fs_103 := V_fs_102.other W103 ne_so_fs.symm
  refine Rch.go (fun _ q => XS.aloadN X103.here hx rfl (hb hby dci_11) rfl rfl q) ?_
  show Rch p ev below _ T103 (mkF m 12 #[.val (.ref so), .val (.int (2 : Int32))] [(.ref so)])
  refine Rch.go (fun _ q => XS.iconst X103.here hx rfl (hb hby dci_12) q) ?_
  show Rch p ev below _ T103 (mkF m 13 #[.val (.ref so), .val (.int (2 : Int32))] [(.int (1 : Int32)), (.ref so)])
  obtain ⟨T104, h104, kk_bs, X104, e104, E104, V104, st104⟩ := naw X103 hx hZ (hw _ (List.mem_of_getElem? (i := 16) rfl)) e103 (g := (mkF m 13 #[.val (.ref so), .val (.int (2 : Int32))] [(.int (1 : Int32)), (.ref so)])) rfl (hb hby dci_13) rfl (by decide) 1 (cap := 1) (by decide) (by decide) (by decide) (by decide)
  obtain ⟨bs, g104⟩ : ∃ q, q = Array.size h103 := ⟨_, rfl⟩
  rw [← g104] at V104 st104
  have V_bs_104 : Arv Z h104 bs kk_bs .long 1 [(.long 0)] (.long 0) := V104
  have le_bs : n0 ≤ bs := by rw [g104]; exact Z103
  have Z104 : n0 ≤ h104.size := Nat.le_trans Z103 E104.1
  refine Rch.go st104 ?_
  show Rch p ev below _ T104 (mkF m 15 #[.val (.ref so), .val (.int (2 : Int32))] [(.ref bs), (.ref so)])
  have FL104 : own_FL Z h104 so [.null, .null, (.int 0), (.int 0), (.long 0), (.ref fs), (.int 0), (.int 0), .null, (.int 0), (.int 0), (.int 0), (.int 0), (.long 0), (.long 0)] := fun i nm d v a b => (FL103 i nm d v a b).ext E104
  have EX104 := EX103.ext E104
  have ne_so_bs : so ≠ bs := Nat.ne_of_lt (by rw [g104]; exact EX103.lt)
  have ne_fs_bs : fs ≠ bs := Nat.ne_of_lt (by rw [g104]; exact V_fs_103.lt)
  have V_fs_104 := V_fs_103.ext E104
  obtain ⟨T105, h105, X105, e105, W105, st105⟩ := putF X104 hx hZ hown (host := "") (Or.inl (hw _ (List.mem_of_getElem? (i := 19) rfl))) Via.refl e104 (FL104 8 _ _ _ rfl rfl) EX104 (Or.inl (hw _ (List.mem_of_getElem? (i := 20) rfl))) (hw _ (List.mem_of_getElem? (i := 8) rfl)) (ty := (.array .long)) (by decide) rfl rfl (g := (mkF m 15 #[.val (.ref so), .val (.int (2 : Int32))] [(.ref bs), (.ref so)])) rfl rfl (hb hby dci_15)
  have N105 := Fr.snoc X105 N103 g1
  have Z105 : n0 ≤ h105.size := by rw [W105.size]; exact Z104
  refine Rch.go st105 ?_
  show Rch p ev below _ T105 (mkF m 18 #[.val (.ref so), .val (.int (2 : Int32))] [])
  have FL105 : own_FL Z h105 so [.null, .null, (.int 0), (.int 0), (.long 0), (.ref fs), (.int 0), (.int 0), (.ref bs), (.int 0), (.int 0), (.int 0), (.int 0), (.long 0), (.long 0)] := own_FL_put hw FL104 8 rfl W105
  have EX105 := EX104.wr W105
  have V_fs_105 := V_fs_104.other W105 ne_so_fs.symm
  have V_bs_105 := V_bs_104.other W105 ne_so_bs.symm
  refine Rch.go (fun _ q => XS.aloadN X105.here hx rfl (hb hby dci_18) rfl rfl q) ?_
  show Rch p ev below _ T105 (mkF m 19 #[.val (.ref so), .val (.int (2 : Int32))] [(.ref so)])
  refine Rch.go (fun _ q => XS.iloadN X105.here hx rfl (hb hby dci_19) rfl  q) ?_
  show Rch p ev below _ T105 (mkF m 20 #[.val (.ref so), .val (.int (2 : Int32))] [(.int (2 : Int32)), (.ref so)])
  obtain ⟨T106, h106, kk_rs, X106, e106, E106, V106, st106⟩ := naw X105 hx hZ (hw _ (List.mem_of_getElem? (i := 21) rfl)) e105 (g := (mkF m 20 #[.val (.ref so), .val (.int (2 : Int32))] [(.int (2 : Int32)), (.ref so)])) rfl (hb hby dci_20) rfl (by decide) 2 (cap := 2) (by decide) (by decide) (by decide) (by decide)
  obtain ⟨rs, g106⟩ : ∃ q, q = Array.size h105 := ⟨_, rfl⟩
  rw [← g106] at V106 st106
  have V_rs_106 : Arv Z h106 rs kk_rs .int 2 [(.int 0), (.int 0)] (.int 0) := V106
  have le_rs : n0 ≤ rs := by rw [g106]; exact Z105
  have Z106 : n0 ≤ h106.size := Nat.le_trans Z105 E106.1
  refine Rch.go st106 ?_
  show Rch p ev below _ T106 (mkF m 22 #[.val (.ref so), .val (.int (2 : Int32))] [(.ref rs), (.ref so)])
  have FL106 : own_FL Z h106 so [.null, .null, (.int 0), (.int 0), (.long 0), (.ref fs), (.int 0), (.int 0), (.ref bs), (.int 0), (.int 0), (.int 0), (.int 0), (.long 0), (.long 0)] := fun i nm d v a b => (FL105 i nm d v a b).ext E106
  have EX106 := EX105.ext E106
  have ne_so_rs : so ≠ rs := Nat.ne_of_lt (by rw [g106]; exact EX105.lt)
  have ne_fs_rs : fs ≠ rs := Nat.ne_of_lt (by rw [g106]; exact V_fs_105.lt)
  have V_fs_106 := V_fs_105.ext E106
  have ne_bs_rs : bs ≠ rs := Nat.ne_of_lt (by rw [g106]; exact V_bs_105.lt)
  have V_bs_106 := V_bs_105.ext E106
  obtain ⟨T107, h107, X107, e107, W107, st107⟩ := putF X106 hx hZ hown (host := "") (Or.inl (hw _ (List.mem_of_getElem? (i := 22) rfl))) Via.refl e106 (FL106 0 _ _ _ rfl rfl) EX106 (Or.inr ⟨(hw _ (List.mem_of_getElem? (i := 23) rfl)), rfl, hnm⟩) (hw _ (List.mem_of_getElem? (i := 8) rfl)) (ty := (.array .int)) (by decide) rfl rfl (g := (mkF m 22 #[.val (.ref so), .val (.int (2 : Int32))] [(.ref rs), (.ref so)])) rfl rfl (hb hby dci_22)
  have N107 := Fr.snoc X107 N105 g1
  have Z107 : n0 ≤ h107.size := by rw [W107.size]; exact Z106
  refine Rch.go st107 ?_
  show Rch p ev below _ T107 (mkF m 25 #[.val (.ref so), .val (.int (2 : Int32))] [])
  have FL107 : own_FL Z h107 so [(.ref rs), .null, (.int 0), (.int 0), (.long 0), (.ref fs), (.int 0), (.int 0), (.ref bs), (.int 0), (.int 0), (.int 0), (.int 0), (.long 0), (.long 0)] := own_FL_put hw FL106 0 rfl W107
  have EX107 := EX106.wr W107
  have V_fs_107 := V_fs_106.other W107 ne_so_fs.symm
  have V_bs_107 := V_bs_106.other W107 ne_so_bs.symm
  have V_rs_107 := V_rs_106.other W107 ne_so_rs.symm
  refine Rch.go (fun _ q => XS.aloadN X107.here hx rfl (hb hby dci_25) rfl rfl q) ?_
  show Rch p ev below _ T107 (mkF m 26 #[.val (.ref so), .val (.int (2 : Int32))] [(.ref so)])
  refine Rch.go (fun _ q => XS.iloadN X107.here hx rfl (hb hby dci_26) rfl  q) ?_
  show Rch p ev below _ T107 (mkF m 27 #[.val (.ref so), .val (.int (2 : Int32))] [(.int (2 : Int32)), (.ref so)])
  obtain ⟨T108, h108, kk_rt, X108, e108, E108, V108, st108⟩ := naw X107 hx hZ (hw _ (List.mem_of_getElem? (i := 21) rfl)) e107 (g := (mkF m 27 #[.val (.ref so), .val (.int (2 : Int32))] [(.int (2 : Int32)), (.ref so)])) rfl (hb hby dci_27) rfl (by decide) 2 (cap := 2) (by decide) (by decide) (by decide) (by decide)
  obtain ⟨rt, g108⟩ : ∃ q, q = Array.size h107 := ⟨_, rfl⟩
  rw [← g108] at V108 st108
  have V_rt_108 : Arv Z h108 rt kk_rt .int 2 [(.int 0), (.int 0)] (.int 0) := V108
  have le_rt : n0 ≤ rt := by rw [g108]; exact Z107
  have Z108 : n0 ≤ h108.size := Nat.le_trans Z107 E108.1
  refine Rch.go st108 ?_
  show Rch p ev below _ T108 (mkF m 29 #[.val (.ref so), .val (.int (2 : Int32))] [(.ref rt), (.ref so)])
  have FL108 : own_FL Z h108 so [(.ref rs), .null, (.int 0), (.int 0), (.long 0), (.ref fs), (.int 0), (.int 0), (.ref bs), (.int 0), (.int 0), (.int 0), (.int 0), (.long 0), (.long 0)] := fun i nm d v a b => (FL107 i nm d v a b).ext E108
  have EX108 := EX107.ext E108
  have ne_so_rt : so ≠ rt := Nat.ne_of_lt (by rw [g108]; exact EX107.lt)
  have ne_fs_rt : fs ≠ rt := Nat.ne_of_lt (by rw [g108]; exact V_fs_107.lt)
  have V_fs_108 := V_fs_107.ext E108
  have ne_bs_rt : bs ≠ rt := Nat.ne_of_lt (by rw [g108]; exact V_bs_107.lt)
  have V_bs_108 := V_bs_107.ext E108
  have ne_rs_rt : rs ≠ rt := Nat.ne_of_lt (by rw [g108]; exact V_rs_107.lt)
  have V_rs_108 := V_rs_107.ext E108
  obtain ⟨T109, h109, X109, e109, W109, st109⟩ := putF X108 hx hZ hown (host := "") (Or.inl (hw _ (List.mem_of_getElem? (i := 24) rfl))) Via.refl e108 (FL108 1 _ _ _ rfl rfl) EX108 (Or.inr ⟨(hw _ (List.mem_of_getElem? (i := 25) rfl)), rfl, hnm⟩) (hw _ (List.mem_of_getElem? (i := 8) rfl)) (ty := (.array .int)) (by decide) rfl rfl (g := (mkF m 29 #[.val (.ref so), .val (.int (2 : Int32))] [(.ref rt), (.ref so)])) rfl rfl (hb hby dci_29)
  have N109 := Fr.snoc X109 N107 g1
  have Z109 : n0 ≤ h109.size := by rw [W109.size]; exact Z108
  refine Rch.go st109 ?_
  show Rch p ev below _ T109 (mkF m 32 #[.val (.ref so), .val (.int (2 : Int32))] [])
  have FL109 : own_FL Z h109 so [(.ref rs), (.ref rt), (.int 0), (.int 0), (.long 0), (.ref fs), (.int 0), (.int 0), (.ref bs), (.int 0), (.int 0), (.int 0), (.int 0), (.long 0), (.long 0)] := own_FL_put hw FL108 1 rfl W109
  have EX109 := EX108.wr W109
  have V_fs_109 := V_fs_108.other W109 ne_so_fs.symm
  have V_bs_109 := V_bs_108.other W109 ne_so_bs.symm
  have V_rs_109 := V_rs_108.other W109 ne_so_rs.symm
  have V_rt_109 := V_rt_108.other W109 ne_so_rt.symm
  refine Rch.retV X109 hx hlk Bd.returns (hb hby dci_32) (by decide) (by decide) ?_
  unfold Qrmci
  rw [e109]
  exact ⟨rfl, N109, rs, rt, fs, bs, kk_rs, kk_rt, kk_fs, kk_bs, EX109, FL109, V_rs_109, V_rt_109, V_fs_109, V_bs_109, ⟨g1, le_rs, le_rt, le_fs, le_bs, Z109⟩, ne_so_rs, ne_so_rt, ne_so_fs, ne_so_bs, ne_rs_rt, ne_fs_rs.symm, ne_bs_rs.symm, ne_fs_rt.symm, ne_bs_rt.symm, ne_fs_bs⟩
theorem own_div (W X m : Int) (hX : 0 < X) (h1 : X * (m - 1) < W) (h2 : W ≤ X * m) : (W + X - 1) / X = m := by
  have e1 : X * (m - 1) = X * m - X := by rw [Int.mul_sub, Int.mul_one]
  have e2 : m * X = X * m := Int.mul_comm _ _
  have e3 : (m + 1) * X = X * m + X := by rw [Int.add_mul, Int.one_mul, e2]
  have a : m ≤ (W + X - 1) / X := (Int.le_ediv_iff_mul_le hX).mpr (by omega)
  have b : (W + X - 1) / X < m + 1 := (Int.ediv_lt_iff_lt_mul hX).mpr (by omega)
  omega
theorem own_cl (x : Int32) (lw : Int64) (m : Int) (hx : 0 < x.toInt) (hm : 0 ≤ m) (hw1 : 0 < lw.toInt) (hw2 : lw.toInt ≤ 17179869184) (h1 : x.toInt * (m - 1) < lw.toInt) (h2 : lw.toInt ≤ x.toInt * m) (h3 : x.toInt * m ≤ 17179869184) : (((((lw + (x.toInt64)) - (1 : Int64)) / (x.toInt64)) * (x.toInt64))).toInt = x.toInt * m := by
  have rx := rng32 x
  have kx := c_i2l x
  have k1 : (1 : Int64).toInt = 1 := rfl
  have a1 := c_ladd lw x.toInt64
  have r1 := rng64 (lw + x.toInt64)
  have a2 := c_lsub (lw + x.toInt64) 1
  have r2 := rng64 ((lw + x.toInt64) - 1)
  have s : ((lw + x.toInt64) - 1).toInt = lw.toInt + x.toInt - 1 := by omega
  have d := (c_ldiv ((lw + x.toInt64) - 1) x.toInt64 x.toInt kx (fun q => by rw [q] at kx; have : (-1 : Int64).toInt = -1 := rfl; omega)).1 (by omega)
  rw [s, own_div _ _ m hx h1 h2] at d
  have mu := c_lmul (((lw + x.toInt64) - 1) / x.toInt64) x.toInt64
  rw [d, kx, Int.mul_comm m] at mu
  have r3 := rng64 ((((lw + x.toInt64) - 1) / x.toInt64) * x.toInt64)
  have nn : 0 ≤ x.toInt * m := Int.mul_nonneg (by omega) hm
  omega
theorem own_fin (x : Int32) (n : Nat) (hn1 : 1 ≤ n) (hn8 : n ≤ 8) (hx : 0 ≤ x.toInt) (lw res ga : Int64) (r : Int32) (G : own_G x x n n lw r ga) (hr : (r = 0 ∧ res = lw) ∨ (r ≠ 0 ∧ res = ga)) :
    (¬ 0 < lw.toInt → res = 0) ∧ (0 < lw.toInt → x.toInt * (n : Int) < lw.toInt → res = 9223372036854775807) ∧ (0 < lw.toInt → ¬ x.toInt * (n : Int) < lw.toInt → res = (((((lw + (x.toInt64)) - (1 : Int64)) / (x.toInt64)) * (x.toInt64)))) := by
  have F1 : ∀ i : Nat, i ≤ n → own_F x.toInt x.toInt n i = x.toInt * (i : Int) := fun i hi => own_F_one i hi
  have k0 : (0 : Int64).toInt = 0 := rfl
  have rx := rng32 x
  have hb := own_Fb x x n hx hx n (by omega)
  unfold own_G at G
  rw [F1 n (Nat.le_refl _)] at G hb
  refine ⟨fun h => ?_, fun h1 h2 => ?_, fun h1 h2 => ?_⟩
  · rcases G with ⟨g1, g2, g3⟩ | ⟨g1, g2⟩ | G | G | G | G
    · rcases hr with ⟨q, -⟩ | ⟨-, q⟩
      · rw [g2] at q; exact absurd q (by decide)
      · rw [q, g3]
    · rcases hr with ⟨-, q⟩ | ⟨q, -⟩
      · rw [q, ← Int64.toInt_inj, g1]; rfl
      · exact absurd g2 q
    all_goals exact absurd G.1 h
  · rcases G with ⟨g1, -⟩ | ⟨g1, -⟩ | ⟨-, g1, -⟩ | ⟨-, g1, g2, g3⟩ | ⟨-, g1, -⟩ | ⟨-, g1, -⟩
    · omega
    · omega
    · omega
    · rcases hr with ⟨q, -⟩ | ⟨-, q⟩
      · rw [g2] at q; exact absurd q (by decide)
      · rw [q, g3]
    · omega
    · omega
  · have hx0 : 0 < x.toInt := by
      have q0 : x.toInt ≠ 0 := fun q => by rw [q, Int.zero_mul] at h2; omega
      omega
    have done : ∀ m : Int, 0 ≤ m → x.toInt * (m - 1) < lw.toInt → lw.toInt ≤ x.toInt * m → x.toInt * m ≤ 17179869184 → res.toInt = x.toInt * m → res = (((((lw + (x.toInt64)) - (1 : Int64)) / (x.toInt64)) * (x.toInt64))) := fun m hm p1 p2 p3 p4 => by
      rw [← Int64.toInt_inj, p4, own_cl x lw m hx0 hm h1 (by omega) p1 p2 p3]
    rcases G with ⟨g1, -⟩ | ⟨g1, -⟩ | ⟨-, g1, g2⟩ | ⟨-, g1, -⟩ | ⟨-, g1, g2, g3⟩ | ⟨-, g1, g2, g3⟩
    · omega
    · omega
    · have q : res = lw := by rcases hr with ⟨-, q⟩ | ⟨q, -⟩; exact q; exact absurd g2 q
      refine done n (by omega) ?_ (by omega) (by omega) (by rw [q]; exact g1)
      rw [g1, Int.mul_sub, Int.mul_one]; omega
    · omega
    · have q : res = lw := by rcases hr with ⟨-, q⟩ | ⟨q, -⟩; exact q; exact absurd g3 q
      have x1 : x.toInt = 1 := by omega
      refine done lw.toInt (by omega) ?_ ?_ ?_ ?_ <;> rw [x1] <;> (try rw [q]) <;> omega
    · rcases g3 with ⟨c1, k, c, c2, c3, c4, c5⟩ | ⟨c1, k, c, c2, c3, c4, c5⟩
      · have q : res = ga := by rcases hr with ⟨q, -⟩ | ⟨-, q⟩; (rw [c1] at q; exact absurd q (by decide)); exact q
        rw [F1 k (by omega)] at c3
        rw [F1 _ (by omega), F1 _ (by omega), ← Int.mul_sub] at c5
        have e1 : (((n - c : Nat) : Int) - ((n - (c + (k + 1)) : Nat) : Int)) = (k : Int) + 1 := by omega
        rw [e1] at c5
        have bnd : x.toInt * ((k : Int) + 1) ≤ x.toInt * (n : Int) := Int.mul_le_mul_of_nonneg_left (by omega) hx
        refine done ((k : Int) + 1) (by omega) (by rw [Int.add_sub_cancel]; exact c3) (by omega) (by omega) (by rw [q]; exact c5)
      · have q : res = lw := by rcases hr with ⟨-, q⟩ | ⟨q, -⟩; exact q; exact absurd c1 q
        rw [F1 k (by omega)] at c3
        rw [F1 (k + 1) (by omega)] at c4
        rw [F1 _ (by omega), F1 _ (by omega), ← Int.mul_sub] at c5
        have e1 : (((n - c : Nat) : Int) - ((n - (c + (k + 1)) : Nat) : Int)) = (k : Int) + 1 := by omega
        have e2 : ((k + 1 : Nat) : Int) = (k : Int) + 1 := by omega
        rw [e1] at c5
        rw [e2] at c4
        refine done ((k : Int) + 1) (by omega) (by rw [Int.add_sub_cancel]; exact c3) (by omega) (by omega) (by rw [q]; omega)
theorem own_F_two {A B : Int} {e : Nat} : ∀ j : Nat, own_F A B e (e + j) = A * (e : Int) + B * (j : Int)
  | 0 => by rw [Nat.add_zero, own_F_one e (Nat.le_refl _)]; simp
  | j + 1 => by
    have ih := own_F_two (A := A) (B := B) (e := e) j
    rw [← Nat.add_assoc, own_F, if_neg (by omega), ih]; push_cast; rw [Int.mul_add, Int.mul_one]; omega
theorem own_wm (x : Int32) (n : Nat) (h : n < 100) : (x.toInt64 * (Int32.ofNat n).toInt64).toInt = x.toInt * (n : Int) := by rw [XT.wideMul, own_ofN n h]
theorem own_pb (x : Int32) (hx : 0 ≤ x.toInt) (n : Nat) (hn : n ≤ 8) : 0 ≤ x.toInt * (n : Int) ∧ x.toInt * (n : Int) ≤ 17179869184 := by
  have r := rng32 x
  refine ⟨Int.mul_nonneg hx (by omega), ?_⟩
  have a : x.toInt * (n : Int) ≤ x.toInt * 8 := Int.mul_le_mul_of_nonneg_left (by omega) hx
  omega
theorem own_cnt (y m : Int32) (k : Nat) (hm : m.toInt = k) (hk : k ≤ 7) : ∃ n : Nat, ((y &&& m) + (1 : Int32)) = Int32.ofNat n ∧ 1 ≤ n ∧ n ≤ k + 1 := by
  have a := c_and y m (by omega)
  have e := c_iadd (y &&& m) 1
  have r := rng32 ((y &&& m) + 1)
  have k1 : (1 : Int32).toInt = 1 := rfl
  rw [k1] at e
  refine ⟨((y &&& m) + 1).toInt.toNat, ?_, by omega, by omega⟩
  rw [← Int32.toInt_inj, own_ofN _ (by omega)]; omega
theorem own_pn17 : plainFor x = true := by first | exact plainFor_of_name (by first | (simp [plainName, overriddenIn]; done) | decide +kernel) | decide +kernel
theorem own_pd12 : parseMethodDescriptor "(IIIJIJ)Z" = some ⟨[.int, .int, .int, .long, .int, .long], some .boolean⟩ := by decide +kernel
theorem own_ef23 (m : MethodId) (x0 : Int32) (x1 : Int32) (x2 : Int32) (x3 : Int64) (x4 : Int32) (x5 : Int64) : entryFrame m #[(.int x0), (.int x1), (.int x2), (.long x3), (.int x4), (.long x5)] maxLocals = mkF m 0 #[.val (.int x0), .val (.int x1), .val (.int x2), .val (.long x3), .second, .val (.int x4), .val (.long x5), .second, .unset, .unset, .unset, .unset, .unset, .unset, .unset, .unset, .unset, .unset, .unset, .unset, .unset, .unset, .unset, .unset, .unset] [] := by first | (simp [entryFrame, mkF, argsToLocals, Value.category, maxLocals]; done) | rfl
def Qrm0 (Z : State) (p1 : Int32) (p2 : Int32) (p3 : Int32) (p4 : Int64) (p5 : Int32) (p6 : Int64)  (h0 : Heap) (n0 : Nat) : Option Value → Heap → List Loc → Prop := fun v h L => v = some (.int 1) ∧ Fr n0 L
set_option maxRecDepth 65536 in
set_option maxHeartbeats 40000000 in
theorem rm0 (l : Launch) (Z : State) (a0 : Array Value) (hw : ∀ d ∈ tables_1, d.before a0 Z = true) (ws : List Jvm.Cond) (p1 : Int32) (p2 : Int32) (p3 : Int32) (p4 : Int64) (p5 : Int32) (p6 : Int64)  (h0 : Heap) (n0 : Nat) (Z0 : n0 ≤ h0.size)  :
    MetFree l x (head1 (Jvm.Cond.code x code maxLocals ret :: ws) room_1) (fun a U => a = #[(.int p1), (.int p2), (.int p3), (.long p4), (.int p5), (.long p6)] ∧ Z.Warmed39 U.vm ∧ U.heap = h0) (fun _ _ _ _ _ => True) (fun _ U o U' => ∃ v L, o = .returned v ∧ (Qrm0 Z p1 p2 p3 p4 p5 p6  h0 n0) v U'.heap L ∧ FrameEnd U o U' L room_1.cells room_1.slots) := by
  refine MetFree.of_bodySF own_pn17 hisR ?_
  intro p ev s m args below meth c s₁ Bd hml0 hP hK
  obtain ⟨rfl, hZ, hh⟩ := hP
  have hx := Bd.exec
  have hby := Bd.bytes
  have hlk := Bd.notSynchronized
  have hml : c.maxLocals = 25 := hml0
  have hown : s.vm.findClass "com/example/binflow/binflow/solve/SubsetSumsClearPinLaw" = some m.cls := findClass_of_methodNamed Bd.named
  have hnm := (name_of_methodNamed Bd.named Bd.method).1
  have X0 : Stand p l ev room_1 s m #[(.int p1), (.int p2), (.int p3), (.long p4), (.int p5), (.long p6)] below meth c s₁ [] 0 0 := Stand.of_body Bd
  have e0 : s₁.heap = h0 := by rw [← hh, Bd.state]; rfl
  have N0 := Fr.nil n0
  refine Rch.entry (G := (EndQ (Qrm0 Z p1 p2 p3 p4 p5 p6  h0 n0) s room_1.cells room_1.slots)) (own_ef23 m p1 p2 p3 p4 p5 p6) ?_
  have hbool : ∀ x : Int32, nar .boolean x = x &&& 1 := fun _ => rfl
  show Rch p ev below _ s₁ (mkF m 0 #[.val (.int p1), .val (.int p2), .val (.int p3), .val (.long p4), .second, .val (.int p5), .val (.long p6), .second, .unset, .unset, .unset, .unset, .unset, .unset, .unset, .unset, .unset, .unset, .unset, .unset, .unset, .unset, .unset, .unset, .unset] [])
  refine Rch.go (fun _ q => XS.iloadN X0.here hx rfl (hb hby at_0) rfl  q) ?_
  show Rch p ev below _ s₁ (mkF m 1 #[.val (.int p1), .val (.int p2), .val (.int p3), .val (.long p4), .second, .val (.int p5), .val (.long p6), .second, .unset, .unset, .unset, .unset, .unset, .unset, .unset, .unset, .unset, .unset, .unset, .unset, .unset, .unset, .unset, .unset, .unset] [(.int p1)])
  refine Rch.go (fun _ q => X0.ldcI hx (own := "com/example/binflow/binflow/solve/SubsetSumsClearPinLaw") hown (mvT hZ (hw _ (List.mem_of_getElem? (i := 0) rfl))) rfl (hb hby at_1) q) ?_
  show Rch p ev below _ s₁ (mkF m 3 #[.val (.int p1), .val (.int p2), .val (.int p3), .val (.long p4), .second, .val (.int p5), .val (.long p6), .second, .unset, .unset, .unset, .unset, .unset, .unset, .unset, .unset, .unset, .unset, .unset, .unset, .unset, .unset, .unset, .unset, .unset] [(.int (2147483647 : Int32)), (.int p1)])
  refine Rch.go (fun _ q => XS.iand X0.here hx rfl (hb hby at_3) rfl q) ?_
  show Rch p ev below _ s₁ (mkF m 4 #[.val (.int p1), .val (.int p2), .val (.int p3), .val (.long p4), .second, .val (.int p5), .val (.long p6), .second, .unset, .unset, .unset, .unset, .unset, .unset, .unset, .unset, .unset, .unset, .unset, .unset, .unset, .unset, .unset, .unset, .unset] [(.int (p1 &&& (2147483647 : Int32)))])
  refine Rch.go (fun _ q => XS.istore X0.here hx rfl (hb hby at_4) rfl (l' := #[.val (.int p1), .val (.int p2), .val (.int p3), .val (.long p4), .second, .val (.int p5), .val (.long p6), .second, .val (.int (p1 &&& (2147483647 : Int32))), .unset, .unset, .unset, .unset, .unset, .unset, .unset, .unset, .unset, .unset, .unset, .unset, .unset, .unset, .unset, .unset]) rfl q) ?_
  show Rch p ev below _ s₁ (mkF m 6 #[.val (.int p1), .val (.int p2), .val (.int p3), .val (.long p4), .second, .val (.int p5), .val (.long p6), .second, .val (.int (p1 &&& (2147483647 : Int32))), .unset, .unset, .unset, .unset, .unset, .unset, .unset, .unset, .unset, .unset, .unset, .unset, .unset, .unset, .unset, .unset] [])
  have ha := c_and p1 2147483647 (by decide)
  obtain ⟨av, g_av⟩ : ∃ q, q = (p1 &&& (2147483647 : Int32)) := ⟨_, rfl⟩
  rw [← g_av]
  show Rch p ev below _ s₁ (mkF m 6 #[.val (.int p1), .val (.int p2), .val (.int p3), .val (.long p4), .second, .val (.int p5), .val (.long p6), .second, .val (.int av), .unset, .unset, .unset, .unset, .unset, .unset, .unset, .unset, .unset, .unset, .unset, .unset, .unset, .unset, .unset, .unset] [])
  rw [← g_av] at ha
  refine Rch.go (fun _ q => XS.iload X0.here hx rfl (hb hby at_6) rfl  q) ?_
  show Rch p ev below _ s₁ (mkF m 8 #[.val (.int p1), .val (.int p2), .val (.int p3), .val (.long p4), .second, .val (.int p5), .val (.long p6), .second, .val (.int av), .unset, .unset, .unset, .unset, .unset, .unset, .unset, .unset, .unset, .unset, .unset, .unset, .unset, .unset, .unset, .unset] [(.int av)])
  refine Rch.go (fun _ q => XS.iloadN X0.here hx rfl (hb hby at_8) rfl  q) ?_
  show Rch p ev below _ s₁ (mkF m 9 #[.val (.int p1), .val (.int p2), .val (.int p3), .val (.long p4), .second, .val (.int p5), .val (.long p6), .second, .val (.int av), .unset, .unset, .unset, .unset, .unset, .unset, .unset, .unset, .unset, .unset, .unset, .unset, .unset, .unset, .unset, .unset] [(.int p2), (.int av)])
  refine Rch.go (fun _ q => X0.ldcI hx (own := "com/example/binflow/binflow/solve/SubsetSumsClearPinLaw") hown (mvT hZ (hw _ (List.mem_of_getElem? (i := 0) rfl))) rfl (hb hby at_9) q) ?_
  show Rch p ev below _ s₁ (mkF m 11 #[.val (.int p1), .val (.int p2), .val (.int p3), .val (.long p4), .second, .val (.int p5), .val (.long p6), .second, .val (.int av), .unset, .unset, .unset, .unset, .unset, .unset, .unset, .unset, .unset, .unset, .unset, .unset, .unset, .unset, .unset, .unset] [(.int (2147483647 : Int32)), (.int p2), (.int av)])
  refine Rch.go (fun _ q => XS.iand X0.here hx rfl (hb hby at_11) rfl q) ?_
  show Rch p ev below _ s₁ (mkF m 12 #[.val (.int p1), .val (.int p2), .val (.int p3), .val (.long p4), .second, .val (.int p5), .val (.long p6), .second, .val (.int av), .unset, .unset, .unset, .unset, .unset, .unset, .unset, .unset, .unset, .unset, .unset, .unset, .unset, .unset, .unset, .unset] [(.int (p2 &&& (2147483647 : Int32))), (.int av)])
  have hbq := c_and p2 2147483647 (by decide)
  obtain ⟨bq, g_bq⟩ : ∃ q, q = (p2 &&& (2147483647 : Int32)) := ⟨_, rfl⟩
  rw [← g_bq]
  show Rch p ev below _ s₁ (mkF m 12 #[.val (.int p1), .val (.int p2), .val (.int p3), .val (.long p4), .second, .val (.int p5), .val (.long p6), .second, .val (.int av), .unset, .unset, .unset, .unset, .unset, .unset, .unset, .unset, .unset, .unset, .unset, .unset, .unset, .unset, .unset, .unset] [(.int bq), (.int av)])
  rw [← g_bq] at hbq
  have hbm : 0 ≤ (own_min av bq).toInt := by unfold own_min; split; exact hbq.1; exact ha.1
  obtain ⟨_, _, ⟨T101, L101, k101, n101⟩, -, X101, ⟨Lc101, hQ101, l101, y101, z101⟩, st101⟩ := Jvm.LawKit.callS X0 hx (y := (⟨"java/lang/Math", "min", "(II)I"⟩ : MethodName)) hown (mvT hZ (hw _ (List.mem_of_getElem? (i := 1) rfl))) (mvT hZ (hw _ (List.mem_of_getElem? (i := 2) rfl))) (mvT hZ (hw _ (List.mem_of_getElem? (i := 3) rfl))) (mvT hZ (hw _ (List.mem_of_getElem? (i := 4) rfl))) (by decide) (backOf (W := 0) (rmmn l Z a0 hw [] av bq h0 n0 Z0) hZ (hw _ (List.mem_of_getElem? (i := 4) rfl)) (hw _ (List.mem_of_getElem? (i := 3) rfl)) (by decide) (by decide)) (g := (mkF m 12 #[.val (.int p1), .val (.int p2), .val (.int p3), .val (.long p4), .second, .val (.int p5), .val (.long p6), .second, .val (.int av), .unset, .unset, .unset, .unset, .unset, .unset, .unset, .unset, .unset, .unset, .unset, .unset, .unset, .unset, .unset, .unset] [(.int bq), (.int av)])) rfl (by rw [hml]; rfl) (argsL := [(.int av), (.int bq)]) (rest := []) (lenOf own_pd0 rfl) rfl (by show 2 * 0 + _ ≤ _; exact Nat.le_of_eq rfl) (hb hby at_12) (fun _ _ => ⟨rfl, e0, (by decide : 0 + 0 ≤ _), (by decide : 0 + 0 ≤ _)⟩)
  dsimp only [Pt.U, Pt.locs, Pt.cells, Pt.slots] at X101 l101 y101 z101 st101 hQ101
  subst l101 y101 z101
  obtain ⟨rfl, Nc, ec⟩ := hQ101
  refine Rch.go st101 ?_
  show Rch p ev below _ T101 (mkF m 15 #[.val (.int p1), .val (.int p2), .val (.int p3), .val (.long p4), .second, .val (.int p5), .val (.long p6), .second, .val (.int av), .unset, .unset, .unset, .unset, .unset, .unset, .unset, .unset, .unset, .unset, .unset, .unset, .unset, .unset, .unset, .unset] [(.int (own_min av bq))])
  have N101 := Fr.app N0 Nc
  have e101 := ec
  obtain ⟨bv, g_bv⟩ : ∃ q, q = (own_min av bq) := ⟨_, rfl⟩
  rw [← g_bv]
  show Rch p ev below _ T101 (mkF m 15 #[.val (.int p1), .val (.int p2), .val (.int p3), .val (.long p4), .second, .val (.int p5), .val (.long p6), .second, .val (.int av), .unset, .unset, .unset, .unset, .unset, .unset, .unset, .unset, .unset, .unset, .unset, .unset, .unset, .unset, .unset, .unset] [(.int bv)])
  rw [← g_bv] at hbm
  refine Rch.go (fun _ q => XS.istore X101.here hx rfl (hb hby at_15) rfl (l' := #[.val (.int p1), .val (.int p2), .val (.int p3), .val (.long p4), .second, .val (.int p5), .val (.long p6), .second, .val (.int av), .val (.int bv), .unset, .unset, .unset, .unset, .unset, .unset, .unset, .unset, .unset, .unset, .unset, .unset, .unset, .unset, .unset]) rfl q) ?_
  show Rch p ev below _ T101 (mkF m 17 #[.val (.int p1), .val (.int p2), .val (.int p3), .val (.long p4), .second, .val (.int p5), .val (.long p6), .second, .val (.int av), .val (.int bv), .unset, .unset, .unset, .unset, .unset, .unset, .unset, .unset, .unset, .unset, .unset, .unset, .unset, .unset, .unset] [])
  refine Rch.go (fun _ q => XS.iloadN X101.here hx rfl (hb hby at_17) rfl  q) ?_
  show Rch p ev below _ T101 (mkF m 18 #[.val (.int p1), .val (.int p2), .val (.int p3), .val (.long p4), .second, .val (.int p5), .val (.long p6), .second, .val (.int av), .val (.int bv), .unset, .unset, .unset, .unset, .unset, .unset, .unset, .unset, .unset, .unset, .unset, .unset, .unset, .unset, .unset] [(.int p3)])
  refine Rch.go (fun _ q => XS.iconst X101.here hx rfl (hb hby at_18) q) ?_
  show Rch p ev below _ T101 (mkF m 19 #[.val (.int p1), .val (.int p2), .val (.int p3), .val (.long p4), .second, .val (.int p5), .val (.long p6), .second, .val (.int av), .val (.int bv), .unset, .unset, .unset, .unset, .unset, .unset, .unset, .unset, .unset, .unset, .unset, .unset, .unset, .unset, .unset] [(.int (3 : Int32)), (.int p3)])
  refine Rch.go (fun _ q => XS.iand X101.here hx rfl (hb hby at_19) rfl q) ?_
  show Rch p ev below _ T101 (mkF m 20 #[.val (.int p1), .val (.int p2), .val (.int p3), .val (.long p4), .second, .val (.int p5), .val (.long p6), .second, .val (.int av), .val (.int bv), .unset, .unset, .unset, .unset, .unset, .unset, .unset, .unset, .unset, .unset, .unset, .unset, .unset, .unset, .unset] [(.int (p3 &&& (3 : Int32)))])
  refine Rch.go (fun _ q => XS.iconst X101.here hx rfl (hb hby at_20) q) ?_
  show Rch p ev below _ T101 (mkF m 21 #[.val (.int p1), .val (.int p2), .val (.int p3), .val (.long p4), .second, .val (.int p5), .val (.long p6), .second, .val (.int av), .val (.int bv), .unset, .unset, .unset, .unset, .unset, .unset, .unset, .unset, .unset, .unset, .unset, .unset, .unset, .unset, .unset] [(.int (1 : Int32)), (.int (p3 &&& (3 : Int32)))])
  refine Rch.go (fun _ q => XS.iadd X101.here hx rfl (hb hby at_21) rfl q) ?_
  show Rch p ev below _ T101 (mkF m 22 #[.val (.int p1), .val (.int p2), .val (.int p3), .val (.long p4), .second, .val (.int p5), .val (.long p6), .second, .val (.int av), .val (.int bv), .unset, .unset, .unset, .unset, .unset, .unset, .unset, .unset, .unset, .unset, .unset, .unset, .unset, .unset, .unset] [(.int ((p3 &&& (3 : Int32)) + (1 : Int32)))])
  refine Rch.go (fun _ q => XS.istore X101.here hx rfl (hb hby at_22) rfl (l' := #[.val (.int p1), .val (.int p2), .val (.int p3), .val (.long p4), .second, .val (.int p5), .val (.long p6), .second, .val (.int av), .val (.int bv), .val (.int ((p3 &&& (3 : Int32)) + (1 : Int32))), .unset, .unset, .unset, .unset, .unset, .unset, .unset, .unset, .unset, .unset, .unset, .unset, .unset, .unset]) rfl q) ?_
  show Rch p ev below _ T101 (mkF m 24 #[.val (.int p1), .val (.int p2), .val (.int p3), .val (.long p4), .second, .val (.int p5), .val (.long p6), .second, .val (.int av), .val (.int bv), .val (.int ((p3 &&& (3 : Int32)) + (1 : Int32))), .unset, .unset, .unset, .unset, .unset, .unset, .unset, .unset, .unset, .unset, .unset, .unset, .unset, .unset] [])
  obtain ⟨caN, hq, hcaN1, hcaN2⟩ := own_cnt p3 3 3 rfl (by decide)
  rw [hq]
  show Rch p ev below _ T101 (mkF m 24 #[.val (.int p1), .val (.int p2), .val (.int p3), .val (.long p4), .second, .val (.int p5), .val (.long p6), .second, .val (.int av), .val (.int bv), .val (.int (Int32.ofNat caN)), .unset, .unset, .unset, .unset, .unset, .unset, .unset, .unset, .unset, .unset, .unset, .unset, .unset, .unset] [])
  refine Rch.go (fun _ q => XS.iloadN X101.here hx rfl (hb hby at_24) rfl  q) ?_
  show Rch p ev below _ T101 (mkF m 25 #[.val (.int p1), .val (.int p2), .val (.int p3), .val (.long p4), .second, .val (.int p5), .val (.long p6), .second, .val (.int av), .val (.int bv), .val (.int (Int32.ofNat caN)), .unset, .unset, .unset, .unset, .unset, .unset, .unset, .unset, .unset, .unset, .unset, .unset, .unset, .unset] [(.int p3)])
  refine Rch.go (fun _ q => XS.iconst X101.here hx rfl (hb hby at_25) q) ?_
  show Rch p ev below _ T101 (mkF m 26 #[.val (.int p1), .val (.int p2), .val (.int p3), .val (.long p4), .second, .val (.int p5), .val (.long p6), .second, .val (.int av), .val (.int bv), .val (.int (Int32.ofNat caN)), .unset, .unset, .unset, .unset, .unset, .unset, .unset, .unset, .unset, .unset, .unset, .unset, .unset, .unset] [(.int (2 : Int32)), (.int p3)])
  refine Rch.go (fun _ q => XS.iushr X101.here hx rfl (hb hby at_26) rfl q) ?_
  show Rch p ev below _ T101 (mkF m 27 #[.val (.int p1), .val (.int p2), .val (.int p3), .val (.long p4), .second, .val (.int p5), .val (.long p6), .second, .val (.int av), .val (.int bv), .val (.int (Int32.ofNat caN)), .unset, .unset, .unset, .unset, .unset, .unset, .unset, .unset, .unset, .unset, .unset, .unset, .unset, .unset] [(.int ((p3.toUInt32 >>> ((2 : Int32) &&& 31).toUInt32).toInt32))])
  refine Rch.go (fun _ q => XS.iconst X101.here hx rfl (hb hby at_27) q) ?_
  show Rch p ev below _ T101 (mkF m 28 #[.val (.int p1), .val (.int p2), .val (.int p3), .val (.long p4), .second, .val (.int p5), .val (.long p6), .second, .val (.int av), .val (.int bv), .val (.int (Int32.ofNat caN)), .unset, .unset, .unset, .unset, .unset, .unset, .unset, .unset, .unset, .unset, .unset, .unset, .unset, .unset] [(.int (3 : Int32)), (.int ((p3.toUInt32 >>> ((2 : Int32) &&& 31).toUInt32).toInt32))])
  refine Rch.go (fun _ q => XS.iand X101.here hx rfl (hb hby at_28) rfl q) ?_
  show Rch p ev below _ T101 (mkF m 29 #[.val (.int p1), .val (.int p2), .val (.int p3), .val (.long p4), .second, .val (.int p5), .val (.long p6), .second, .val (.int av), .val (.int bv), .val (.int (Int32.ofNat caN)), .unset, .unset, .unset, .unset, .unset, .unset, .unset, .unset, .unset, .unset, .unset, .unset, .unset, .unset] [(.int (((p3.toUInt32 >>> ((2 : Int32) &&& 31).toUInt32).toInt32) &&& (3 : Int32)))])
  refine Rch.go (fun _ q => XS.iconst X101.here hx rfl (hb hby at_29) q) ?_
  show Rch p ev below _ T101 (mkF m 30 #[.val (.int p1), .val (.int p2), .val (.int p3), .val (.long p4), .second, .val (.int p5), .val (.long p6), .second, .val (.int av), .val (.int bv), .val (.int (Int32.ofNat caN)), .unset, .unset, .unset, .unset, .unset, .unset, .unset, .unset, .unset, .unset, .unset, .unset, .unset, .unset] [(.int (1 : Int32)), (.int (((p3.toUInt32 >>> ((2 : Int32) &&& 31).toUInt32).toInt32) &&& (3 : Int32)))])
  refine Rch.go (fun _ q => XS.iadd X101.here hx rfl (hb hby at_30) rfl q) ?_
  show Rch p ev below _ T101 (mkF m 31 #[.val (.int p1), .val (.int p2), .val (.int p3), .val (.long p4), .second, .val (.int p5), .val (.long p6), .second, .val (.int av), .val (.int bv), .val (.int (Int32.ofNat caN)), .unset, .unset, .unset, .unset, .unset, .unset, .unset, .unset, .unset, .unset, .unset, .unset, .unset, .unset] [(.int ((((p3.toUInt32 >>> ((2 : Int32) &&& 31).toUInt32).toInt32) &&& (3 : Int32)) + (1 : Int32)))])
  refine Rch.go (fun _ q => XS.istore X101.here hx rfl (hb hby at_31) rfl (l' := #[.val (.int p1), .val (.int p2), .val (.int p3), .val (.long p4), .second, .val (.int p5), .val (.long p6), .second, .val (.int av), .val (.int bv), .val (.int (Int32.ofNat caN)), .val (.int ((((p3.toUInt32 >>> ((2 : Int32) &&& 31).toUInt32).toInt32) &&& (3 : Int32)) + (1 : Int32))), .unset, .unset, .unset, .unset, .unset, .unset, .unset, .unset, .unset, .unset, .unset, .unset, .unset]) rfl q) ?_
  show Rch p ev below _ T101 (mkF m 33 #[.val (.int p1), .val (.int p2), .val (.int p3), .val (.long p4), .second, .val (.int p5), .val (.long p6), .second, .val (.int av), .val (.int bv), .val (.int (Int32.ofNat caN)), .val (.int ((((p3.toUInt32 >>> ((2 : Int32) &&& 31).toUInt32).toInt32) &&& (3 : Int32)) + (1 : Int32))), .unset, .unset, .unset, .unset, .unset, .unset, .unset, .unset, .unset, .unset, .unset, .unset, .unset] [])
  obtain ⟨cbN, hq, hcbN1, hcbN2⟩ := own_cnt ((p3.toUInt32 >>> ((2 : Int32) &&& 31).toUInt32).toInt32) 3 3 rfl (by decide)
  rw [hq]
  show Rch p ev below _ T101 (mkF m 33 #[.val (.int p1), .val (.int p2), .val (.int p3), .val (.long p4), .second, .val (.int p5), .val (.long p6), .second, .val (.int av), .val (.int bv), .val (.int (Int32.ofNat caN)), .val (.int (Int32.ofNat cbN)), .unset, .unset, .unset, .unset, .unset, .unset, .unset, .unset, .unset, .unset, .unset, .unset, .unset] [])
  refine Rch.go (fun _ q => XS.iloadN X101.here hx rfl (hb hby at_33) rfl  q) ?_
  show Rch p ev below _ T101 (mkF m 34 #[.val (.int p1), .val (.int p2), .val (.int p3), .val (.long p4), .second, .val (.int p5), .val (.long p6), .second, .val (.int av), .val (.int bv), .val (.int (Int32.ofNat caN)), .val (.int (Int32.ofNat cbN)), .unset, .unset, .unset, .unset, .unset, .unset, .unset, .unset, .unset, .unset, .unset, .unset, .unset] [(.int p3)])
  refine Rch.go (fun _ q => XS.iconst X101.here hx rfl (hb hby at_34) q) ?_
  show Rch p ev below _ T101 (mkF m 35 #[.val (.int p1), .val (.int p2), .val (.int p3), .val (.long p4), .second, .val (.int p5), .val (.long p6), .second, .val (.int av), .val (.int bv), .val (.int (Int32.ofNat caN)), .val (.int (Int32.ofNat cbN)), .unset, .unset, .unset, .unset, .unset, .unset, .unset, .unset, .unset, .unset, .unset, .unset, .unset] [(.int (4 : Int32)), (.int p3)])
  refine Rch.go (fun _ q => XS.iushr X101.here hx rfl (hb hby at_35) rfl q) ?_
  show Rch p ev below _ T101 (mkF m 36 #[.val (.int p1), .val (.int p2), .val (.int p3), .val (.long p4), .second, .val (.int p5), .val (.long p6), .second, .val (.int av), .val (.int bv), .val (.int (Int32.ofNat caN)), .val (.int (Int32.ofNat cbN)), .unset, .unset, .unset, .unset, .unset, .unset, .unset, .unset, .unset, .unset, .unset, .unset, .unset] [(.int ((p3.toUInt32 >>> ((4 : Int32) &&& 31).toUInt32).toInt32))])
  refine Rch.go (fun _ q => XS.bipush X101.here hx rfl (hb hby at_36) q) ?_
  show Rch p ev below _ T101 (mkF m 38 #[.val (.int p1), .val (.int p2), .val (.int p3), .val (.long p4), .second, .val (.int p5), .val (.long p6), .second, .val (.int av), .val (.int bv), .val (.int (Int32.ofNat caN)), .val (.int (Int32.ofNat cbN)), .unset, .unset, .unset, .unset, .unset, .unset, .unset, .unset, .unset, .unset, .unset, .unset, .unset] [(.int (7 : Int32)), (.int ((p3.toUInt32 >>> ((4 : Int32) &&& 31).toUInt32).toInt32))])
  refine Rch.go (fun _ q => XS.iand X101.here hx rfl (hb hby at_38) rfl q) ?_
  show Rch p ev below _ T101 (mkF m 39 #[.val (.int p1), .val (.int p2), .val (.int p3), .val (.long p4), .second, .val (.int p5), .val (.long p6), .second, .val (.int av), .val (.int bv), .val (.int (Int32.ofNat caN)), .val (.int (Int32.ofNat cbN)), .unset, .unset, .unset, .unset, .unset, .unset, .unset, .unset, .unset, .unset, .unset, .unset, .unset] [(.int (((p3.toUInt32 >>> ((4 : Int32) &&& 31).toUInt32).toInt32) &&& (7 : Int32)))])
  refine Rch.go (fun _ q => XS.iconst X101.here hx rfl (hb hby at_39) q) ?_
  show Rch p ev below _ T101 (mkF m 40 #[.val (.int p1), .val (.int p2), .val (.int p3), .val (.long p4), .second, .val (.int p5), .val (.long p6), .second, .val (.int av), .val (.int bv), .val (.int (Int32.ofNat caN)), .val (.int (Int32.ofNat cbN)), .unset, .unset, .unset, .unset, .unset, .unset, .unset, .unset, .unset, .unset, .unset, .unset, .unset] [(.int (1 : Int32)), (.int (((p3.toUInt32 >>> ((4 : Int32) &&& 31).toUInt32).toInt32) &&& (7 : Int32)))])
  refine Rch.go (fun _ q => XS.iadd X101.here hx rfl (hb hby at_40) rfl q) ?_
  show Rch p ev below _ T101 (mkF m 41 #[.val (.int p1), .val (.int p2), .val (.int p3), .val (.long p4), .second, .val (.int p5), .val (.long p6), .second, .val (.int av), .val (.int bv), .val (.int (Int32.ofNat caN)), .val (.int (Int32.ofNat cbN)), .unset, .unset, .unset, .unset, .unset, .unset, .unset, .unset, .unset, .unset, .unset, .unset, .unset] [(.int ((((p3.toUInt32 >>> ((4 : Int32) &&& 31).toUInt32).toInt32) &&& (7 : Int32)) + (1 : Int32)))])
  refine Rch.go (fun _ q => XS.istore X101.here hx rfl (hb hby at_41) rfl (l' := #[.val (.int p1), .val (.int p2), .val (.int p3), .val (.long p4), .second, .val (.int p5), .val (.long p6), .second, .val (.int av), .val (.int bv), .val (.int (Int32.ofNat caN)), .val (.int (Int32.ofNat cbN)), .val (.int ((((p3.toUInt32 >>> ((4 : Int32) &&& 31).toUInt32).toInt32) &&& (7 : Int32)) + (1 : Int32))), .unset, .unset, .unset, .unset, .unset, .unset, .unset, .unset, .unset, .unset, .unset, .unset]) rfl q) ?_
  show Rch p ev below _ T101 (mkF m 43 #[.val (.int p1), .val (.int p2), .val (.int p3), .val (.long p4), .second, .val (.int p5), .val (.long p6), .second, .val (.int av), .val (.int bv), .val (.int (Int32.ofNat caN)), .val (.int (Int32.ofNat cbN)), .val (.int ((((p3.toUInt32 >>> ((4 : Int32) &&& 31).toUInt32).toInt32) &&& (7 : Int32)) + (1 : Int32))), .unset, .unset, .unset, .unset, .unset, .unset, .unset, .unset, .unset, .unset, .unset, .unset] [])
  obtain ⟨nN, hq, hnN1, hnN2⟩ := own_cnt ((p3.toUInt32 >>> ((4 : Int32) &&& 31).toUInt32).toInt32) 7 7 rfl (by decide)
  rw [hq]
  show Rch p ev below _ T101 (mkF m 43 #[.val (.int p1), .val (.int p2), .val (.int p3), .val (.long p4), .second, .val (.int p5), .val (.long p6), .second, .val (.int av), .val (.int bv), .val (.int (Int32.ofNat caN)), .val (.int (Int32.ofNat cbN)), .val (.int (Int32.ofNat nN)), .unset, .unset, .unset, .unset, .unset, .unset, .unset, .unset, .unset, .unset, .unset, .unset] [])
  refine Rch.go (fun _ q => XS.iload X101.here hx rfl (hb hby at_43) rfl  q) ?_
  show Rch p ev below _ T101 (mkF m 45 #[.val (.int p1), .val (.int p2), .val (.int p3), .val (.long p4), .second, .val (.int p5), .val (.long p6), .second, .val (.int av), .val (.int bv), .val (.int (Int32.ofNat caN)), .val (.int (Int32.ofNat cbN)), .val (.int (Int32.ofNat nN)), .unset, .unset, .unset, .unset, .unset, .unset, .unset, .unset, .unset, .unset, .unset, .unset] [(.int p5)])
  refine Rch.go (fun _ q => X101.ldcI hx (own := "com/example/binflow/binflow/solve/SubsetSumsClearPinLaw") hown (mvT hZ (hw _ (List.mem_of_getElem? (i := 0) rfl))) rfl (hb hby at_45) q) ?_
  show Rch p ev below _ T101 (mkF m 47 #[.val (.int p1), .val (.int p2), .val (.int p3), .val (.long p4), .second, .val (.int p5), .val (.long p6), .second, .val (.int av), .val (.int bv), .val (.int (Int32.ofNat caN)), .val (.int (Int32.ofNat cbN)), .val (.int (Int32.ofNat nN)), .unset, .unset, .unset, .unset, .unset, .unset, .unset, .unset, .unset, .unset, .unset, .unset] [(.int (2147483647 : Int32)), (.int p5)])
  refine Rch.go (fun _ q => XS.iand X101.here hx rfl (hb hby at_47) rfl q) ?_
  show Rch p ev below _ T101 (mkF m 48 #[.val (.int p1), .val (.int p2), .val (.int p3), .val (.long p4), .second, .val (.int p5), .val (.long p6), .second, .val (.int av), .val (.int bv), .val (.int (Int32.ofNat caN)), .val (.int (Int32.ofNat cbN)), .val (.int (Int32.ofNat nN)), .unset, .unset, .unset, .unset, .unset, .unset, .unset, .unset, .unset, .unset, .unset, .unset] [(.int (p5 &&& (2147483647 : Int32)))])
  refine Rch.go (fun _ q => XS.istore X101.here hx rfl (hb hby at_48) rfl (l' := #[.val (.int p1), .val (.int p2), .val (.int p3), .val (.long p4), .second, .val (.int p5), .val (.long p6), .second, .val (.int av), .val (.int bv), .val (.int (Int32.ofNat caN)), .val (.int (Int32.ofNat cbN)), .val (.int (Int32.ofNat nN)), .val (.int (p5 &&& (2147483647 : Int32))), .unset, .unset, .unset, .unset, .unset, .unset, .unset, .unset, .unset, .unset, .unset]) rfl q) ?_
  show Rch p ev below _ T101 (mkF m 50 #[.val (.int p1), .val (.int p2), .val (.int p3), .val (.long p4), .second, .val (.int p5), .val (.long p6), .second, .val (.int av), .val (.int bv), .val (.int (Int32.ofNat caN)), .val (.int (Int32.ofNat cbN)), .val (.int (Int32.ofNat nN)), .val (.int (p5 &&& (2147483647 : Int32))), .unset, .unset, .unset, .unset, .unset, .unset, .unset, .unset, .unset, .unset, .unset] [])
  have hxm := c_and p5 2147483647 (by decide)
  obtain ⟨xv, g_xv⟩ : ∃ q, q = (p5 &&& (2147483647 : Int32)) := ⟨_, rfl⟩
  rw [← g_xv]
  show Rch p ev below _ T101 (mkF m 50 #[.val (.int p1), .val (.int p2), .val (.int p3), .val (.long p4), .second, .val (.int p5), .val (.long p6), .second, .val (.int av), .val (.int bv), .val (.int (Int32.ofNat caN)), .val (.int (Int32.ofNat cbN)), .val (.int (Int32.ofNat nN)), .val (.int xv), .unset, .unset, .unset, .unset, .unset, .unset, .unset, .unset, .unset, .unset, .unset] [])
  rw [← g_xv] at hxm
  refine Rch.go (fun _ q => XS.iload X101.here hx rfl (hb hby at_50) rfl  q) ?_
  show Rch p ev below _ T101 (mkF m 52 #[.val (.int p1), .val (.int p2), .val (.int p3), .val (.long p4), .second, .val (.int p5), .val (.long p6), .second, .val (.int av), .val (.int bv), .val (.int (Int32.ofNat caN)), .val (.int (Int32.ofNat cbN)), .val (.int (Int32.ofNat nN)), .val (.int xv), .unset, .unset, .unset, .unset, .unset, .unset, .unset, .unset, .unset, .unset, .unset] [(.int av)])
  refine Rch.go (fun _ q => XS.i2l X101.here hx rfl (hb hby at_52) rfl q) ?_
  show Rch p ev below _ T101 (mkF m 53 #[.val (.int p1), .val (.int p2), .val (.int p3), .val (.long p4), .second, .val (.int p5), .val (.long p6), .second, .val (.int av), .val (.int bv), .val (.int (Int32.ofNat caN)), .val (.int (Int32.ofNat cbN)), .val (.int (Int32.ofNat nN)), .val (.int xv), .unset, .unset, .unset, .unset, .unset, .unset, .unset, .unset, .unset, .unset, .unset] [(.long (av.toInt64))])
  refine Rch.go (fun _ q => XS.iload X101.here hx rfl (hb hby at_53) rfl  q) ?_
  show Rch p ev below _ T101 (mkF m 55 #[.val (.int p1), .val (.int p2), .val (.int p3), .val (.long p4), .second, .val (.int p5), .val (.long p6), .second, .val (.int av), .val (.int bv), .val (.int (Int32.ofNat caN)), .val (.int (Int32.ofNat cbN)), .val (.int (Int32.ofNat nN)), .val (.int xv), .unset, .unset, .unset, .unset, .unset, .unset, .unset, .unset, .unset, .unset, .unset] [(.int (Int32.ofNat caN)), (.long (av.toInt64))])
  refine Rch.go (fun _ q => XS.i2l X101.here hx rfl (hb hby at_55) rfl q) ?_
  show Rch p ev below _ T101 (mkF m 56 #[.val (.int p1), .val (.int p2), .val (.int p3), .val (.long p4), .second, .val (.int p5), .val (.long p6), .second, .val (.int av), .val (.int bv), .val (.int (Int32.ofNat caN)), .val (.int (Int32.ofNat cbN)), .val (.int (Int32.ofNat nN)), .val (.int xv), .unset, .unset, .unset, .unset, .unset, .unset, .unset, .unset, .unset, .unset, .unset] [(.long ((Int32.ofNat caN).toInt64)), (.long (av.toInt64))])
  refine Rch.go (fun _ q => XS.lmul X101.here hx rfl (hb hby at_56) rfl q) ?_
  show Rch p ev below _ T101 (mkF m 57 #[.val (.int p1), .val (.int p2), .val (.int p3), .val (.long p4), .second, .val (.int p5), .val (.long p6), .second, .val (.int av), .val (.int bv), .val (.int (Int32.ofNat caN)), .val (.int (Int32.ofNat cbN)), .val (.int (Int32.ofNat nN)), .val (.int xv), .unset, .unset, .unset, .unset, .unset, .unset, .unset, .unset, .unset, .unset, .unset] [(.long ((av.toInt64) * ((Int32.ofNat caN).toInt64)))])
  refine Rch.go (fun _ q => XS.iload X101.here hx rfl (hb hby at_57) rfl  q) ?_
  show Rch p ev below _ T101 (mkF m 59 #[.val (.int p1), .val (.int p2), .val (.int p3), .val (.long p4), .second, .val (.int p5), .val (.long p6), .second, .val (.int av), .val (.int bv), .val (.int (Int32.ofNat caN)), .val (.int (Int32.ofNat cbN)), .val (.int (Int32.ofNat nN)), .val (.int xv), .unset, .unset, .unset, .unset, .unset, .unset, .unset, .unset, .unset, .unset, .unset] [(.int bv), (.long ((av.toInt64) * ((Int32.ofNat caN).toInt64)))])
  refine Rch.go (fun _ q => XS.i2l X101.here hx rfl (hb hby at_59) rfl q) ?_
  show Rch p ev below _ T101 (mkF m 60 #[.val (.int p1), .val (.int p2), .val (.int p3), .val (.long p4), .second, .val (.int p5), .val (.long p6), .second, .val (.int av), .val (.int bv), .val (.int (Int32.ofNat caN)), .val (.int (Int32.ofNat cbN)), .val (.int (Int32.ofNat nN)), .val (.int xv), .unset, .unset, .unset, .unset, .unset, .unset, .unset, .unset, .unset, .unset, .unset] [(.long (bv.toInt64)), (.long ((av.toInt64) * ((Int32.ofNat caN).toInt64)))])
  refine Rch.go (fun _ q => XS.iload X101.here hx rfl (hb hby at_60) rfl  q) ?_
  show Rch p ev below _ T101 (mkF m 62 #[.val (.int p1), .val (.int p2), .val (.int p3), .val (.long p4), .second, .val (.int p5), .val (.long p6), .second, .val (.int av), .val (.int bv), .val (.int (Int32.ofNat caN)), .val (.int (Int32.ofNat cbN)), .val (.int (Int32.ofNat nN)), .val (.int xv), .unset, .unset, .unset, .unset, .unset, .unset, .unset, .unset, .unset, .unset, .unset] [(.int (Int32.ofNat cbN)), (.long (bv.toInt64)), (.long ((av.toInt64) * ((Int32.ofNat caN).toInt64)))])
  refine Rch.go (fun _ q => XS.i2l X101.here hx rfl (hb hby at_62) rfl q) ?_
  show Rch p ev below _ T101 (mkF m 63 #[.val (.int p1), .val (.int p2), .val (.int p3), .val (.long p4), .second, .val (.int p5), .val (.long p6), .second, .val (.int av), .val (.int bv), .val (.int (Int32.ofNat caN)), .val (.int (Int32.ofNat cbN)), .val (.int (Int32.ofNat nN)), .val (.int xv), .unset, .unset, .unset, .unset, .unset, .unset, .unset, .unset, .unset, .unset, .unset] [(.long ((Int32.ofNat cbN).toInt64)), (.long (bv.toInt64)), (.long ((av.toInt64) * ((Int32.ofNat caN).toInt64)))])
  refine Rch.go (fun _ q => XS.lmul X101.here hx rfl (hb hby at_63) rfl q) ?_
  show Rch p ev below _ T101 (mkF m 64 #[.val (.int p1), .val (.int p2), .val (.int p3), .val (.long p4), .second, .val (.int p5), .val (.long p6), .second, .val (.int av), .val (.int bv), .val (.int (Int32.ofNat caN)), .val (.int (Int32.ofNat cbN)), .val (.int (Int32.ofNat nN)), .val (.int xv), .unset, .unset, .unset, .unset, .unset, .unset, .unset, .unset, .unset, .unset, .unset] [(.long ((bv.toInt64) * ((Int32.ofNat cbN).toInt64))), (.long ((av.toInt64) * ((Int32.ofNat caN).toInt64)))])
  refine Rch.go (fun _ q => XS.ladd X101.here hx rfl (hb hby at_64) rfl q) ?_
  show Rch p ev below _ T101 (mkF m 65 #[.val (.int p1), .val (.int p2), .val (.int p3), .val (.long p4), .second, .val (.int p5), .val (.long p6), .second, .val (.int av), .val (.int bv), .val (.int (Int32.ofNat caN)), .val (.int (Int32.ofNat cbN)), .val (.int (Int32.ofNat nN)), .val (.int xv), .unset, .unset, .unset, .unset, .unset, .unset, .unset, .unset, .unset, .unset, .unset] [(.long (((av.toInt64) * ((Int32.ofNat caN).toInt64)) + ((bv.toInt64) * ((Int32.ofNat cbN).toInt64))))])
  refine Rch.go (fun _ q => XS.lstore X101.here hx rfl (hb hby at_65) rfl (l' := #[.val (.int p1), .val (.int p2), .val (.int p3), .val (.long p4), .second, .val (.int p5), .val (.long p6), .second, .val (.int av), .val (.int bv), .val (.int (Int32.ofNat caN)), .val (.int (Int32.ofNat cbN)), .val (.int (Int32.ofNat nN)), .val (.int xv), .val (.long (((av.toInt64) * ((Int32.ofNat caN).toInt64)) + ((bv.toInt64) * ((Int32.ofNat cbN).toInt64)))), .second, .unset, .unset, .unset, .unset, .unset, .unset, .unset, .unset, .unset]) rfl q) ?_
  show Rch p ev below _ T101 (mkF m 67 #[.val (.int p1), .val (.int p2), .val (.int p3), .val (.long p4), .second, .val (.int p5), .val (.long p6), .second, .val (.int av), .val (.int bv), .val (.int (Int32.ofNat caN)), .val (.int (Int32.ofNat cbN)), .val (.int (Int32.ofNat nN)), .val (.int xv), .val (.long (((av.toInt64) * ((Int32.ofNat caN).toInt64)) + ((bv.toInt64) * ((Int32.ofNat cbN).toInt64)))), .second, .unset, .unset, .unset, .unset, .unset, .unset, .unset, .unset, .unset] [])
  have t1a := own_wm av caN (by omega)
  have t1b := own_wm bv cbN (by omega)
  have ba := own_pb av ha.1 caN (by omega)
  have bb := own_pb bv hbm cbN (by omega)
  have t1c := c_ladd (av.toInt64 * (Int32.ofNat caN).toInt64) (bv.toInt64 * (Int32.ofNat cbN).toInt64)
  have t1r := rng64 ((av.toInt64 * (Int32.ofNat caN).toInt64) + (bv.toInt64 * (Int32.ofNat cbN).toInt64))
  obtain ⟨t1, g_t1⟩ : ∃ q, q = (((av.toInt64) * ((Int32.ofNat caN).toInt64)) + ((bv.toInt64) * ((Int32.ofNat cbN).toInt64))) := ⟨_, rfl⟩
  rw [← g_t1]
  show Rch p ev below _ T101 (mkF m 67 #[.val (.int p1), .val (.int p2), .val (.int p3), .val (.long p4), .second, .val (.int p5), .val (.long p6), .second, .val (.int av), .val (.int bv), .val (.int (Int32.ofNat caN)), .val (.int (Int32.ofNat cbN)), .val (.int (Int32.ofNat nN)), .val (.int xv), .val (.long t1), .second, .unset, .unset, .unset, .unset, .unset, .unset, .unset, .unset, .unset] [])
  rw [← g_t1] at t1c t1r
  have nz1 : (t1 + (1 : Int64)) ≠ 0 := fun q => by
    have a := c_ladd t1 1
    have k1 : (1 : Int64).toInt = 1 := rfl
    have k0 : (0 : Int64).toInt = 0 := rfl
    rw [q, k0, k1] at a; omega
  refine Rch.go (fun _ q => XS.lloadN X101.here hx rfl (hb hby at_67) rfl  q) ?_
  show Rch p ev below _ T101 (mkF m 68 #[.val (.int p1), .val (.int p2), .val (.int p3), .val (.long p4), .second, .val (.int p5), .val (.long p6), .second, .val (.int av), .val (.int bv), .val (.int (Int32.ofNat caN)), .val (.int (Int32.ofNat cbN)), .val (.int (Int32.ofNat nN)), .val (.int xv), .val (.long t1), .second, .unset, .unset, .unset, .unset, .unset, .unset, .unset, .unset, .unset] [(.long p4)])
  refine Rch.go (fun _ q => X101.ldc2J hx (own := "com/example/binflow/binflow/solve/SubsetSumsClearPinLaw") hown (mvT hZ (hw _ (List.mem_of_getElem? (i := 5) rfl))) rfl (hb hby at_68) q) ?_
  show Rch p ev below _ T101 (mkF m 71 #[.val (.int p1), .val (.int p2), .val (.int p3), .val (.long p4), .second, .val (.int p5), .val (.long p6), .second, .val (.int av), .val (.int bv), .val (.int (Int32.ofNat caN)), .val (.int (Int32.ofNat cbN)), .val (.int (Int32.ofNat nN)), .val (.int xv), .val (.long t1), .second, .unset, .unset, .unset, .unset, .unset, .unset, .unset, .unset, .unset] [(.long (9223372036854775807 : Int64)), (.long p4)])
  refine Rch.go (fun _ q => XS.land X101.here hx rfl (hb hby at_71) rfl q) ?_
  show Rch p ev below _ T101 (mkF m 72 #[.val (.int p1), .val (.int p2), .val (.int p3), .val (.long p4), .second, .val (.int p5), .val (.long p6), .second, .val (.int av), .val (.int bv), .val (.int (Int32.ofNat caN)), .val (.int (Int32.ofNat cbN)), .val (.int (Int32.ofNat nN)), .val (.int xv), .val (.long t1), .second, .unset, .unset, .unset, .unset, .unset, .unset, .unset, .unset, .unset] [(.long (p4 &&& (9223372036854775807 : Int64)))])
  refine Rch.go (fun _ q => XS.lload X101.here hx rfl (hb hby at_72) rfl  q) ?_
  show Rch p ev below _ T101 (mkF m 74 #[.val (.int p1), .val (.int p2), .val (.int p3), .val (.long p4), .second, .val (.int p5), .val (.long p6), .second, .val (.int av), .val (.int bv), .val (.int (Int32.ofNat caN)), .val (.int (Int32.ofNat cbN)), .val (.int (Int32.ofNat nN)), .val (.int xv), .val (.long t1), .second, .unset, .unset, .unset, .unset, .unset, .unset, .unset, .unset, .unset] [(.long t1), (.long (p4 &&& (9223372036854775807 : Int64)))])
  refine Rch.go (fun _ q => XS.lconst X101.here hx rfl (hb hby at_74) q) ?_
  show Rch p ev below _ T101 (mkF m 75 #[.val (.int p1), .val (.int p2), .val (.int p3), .val (.long p4), .second, .val (.int p5), .val (.long p6), .second, .val (.int av), .val (.int bv), .val (.int (Int32.ofNat caN)), .val (.int (Int32.ofNat cbN)), .val (.int (Int32.ofNat nN)), .val (.int xv), .val (.long t1), .second, .unset, .unset, .unset, .unset, .unset, .unset, .unset, .unset, .unset] [(.long (1 : Int64)), (.long t1), (.long (p4 &&& (9223372036854775807 : Int64)))])
  refine Rch.go (fun _ q => XS.ladd X101.here hx rfl (hb hby at_75) rfl q) ?_
  show Rch p ev below _ T101 (mkF m 76 #[.val (.int p1), .val (.int p2), .val (.int p3), .val (.long p4), .second, .val (.int p5), .val (.long p6), .second, .val (.int av), .val (.int bv), .val (.int (Int32.ofNat caN)), .val (.int (Int32.ofNat cbN)), .val (.int (Int32.ofNat nN)), .val (.int xv), .val (.long t1), .second, .unset, .unset, .unset, .unset, .unset, .unset, .unset, .unset, .unset] [(.long (t1 + (1 : Int64))), (.long (p4 &&& (9223372036854775807 : Int64)))])
  refine Rch.go (fun _ q => XS.lrem X101.here hx rfl (hb hby at_76) rfl nz1 q) ?_
  show Rch p ev below _ T101 (mkF m 77 #[.val (.int p1), .val (.int p2), .val (.int p3), .val (.long p4), .second, .val (.int p5), .val (.long p6), .second, .val (.int av), .val (.int bv), .val (.int (Int32.ofNat caN)), .val (.int (Int32.ofNat cbN)), .val (.int (Int32.ofNat nN)), .val (.int xv), .val (.long t1), .second, .unset, .unset, .unset, .unset, .unset, .unset, .unset, .unset, .unset] [(.long ((p4 &&& (9223372036854775807 : Int64)) - ((p4 &&& (9223372036854775807 : Int64)) / (t1 + (1 : Int64))) * (t1 + (1 : Int64))))])
  refine Rch.go (fun _ q => XS.lstore X101.here hx rfl (hb hby at_77) rfl (l' := #[.val (.int p1), .val (.int p2), .val (.int p3), .val (.long p4), .second, .val (.int p5), .val (.long p6), .second, .val (.int av), .val (.int bv), .val (.int (Int32.ofNat caN)), .val (.int (Int32.ofNat cbN)), .val (.int (Int32.ofNat nN)), .val (.int xv), .val (.long t1), .second, .val (.long ((p4 &&& (9223372036854775807 : Int64)) - ((p4 &&& (9223372036854775807 : Int64)) / (t1 + (1 : Int64))) * (t1 + (1 : Int64)))), .second, .unset, .unset, .unset, .unset, .unset, .unset, .unset]) rfl q) ?_
  show Rch p ev below _ T101 (mkF m 79 #[.val (.int p1), .val (.int p2), .val (.int p3), .val (.long p4), .second, .val (.int p5), .val (.long p6), .second, .val (.int av), .val (.int bv), .val (.int (Int32.ofNat caN)), .val (.int (Int32.ofNat cbN)), .val (.int (Int32.ofNat nN)), .val (.int xv), .val (.long t1), .second, .val (.long ((p4 &&& (9223372036854775807 : Int64)) - ((p4 &&& (9223372036854775807 : Int64)) / (t1 + (1 : Int64))) * (t1 + (1 : Int64)))), .second, .unset, .unset, .unset, .unset, .unset, .unset, .unset] [])
  obtain ⟨qv, g_qv⟩ : ∃ q, q = ((p4 &&& (9223372036854775807 : Int64)) - ((p4 &&& (9223372036854775807 : Int64)) / (t1 + (1 : Int64))) * (t1 + (1 : Int64))) := ⟨_, rfl⟩
  rw [← g_qv]
  show Rch p ev below _ T101 (mkF m 79 #[.val (.int p1), .val (.int p2), .val (.int p3), .val (.long p4), .second, .val (.int p5), .val (.long p6), .second, .val (.int av), .val (.int bv), .val (.int (Int32.ofNat caN)), .val (.int (Int32.ofNat cbN)), .val (.int (Int32.ofNat nN)), .val (.int xv), .val (.long t1), .second, .val (.long qv), .second, .unset, .unset, .unset, .unset, .unset, .unset, .unset] [])
  refine Rch.go (fun _ q => XS.iload X101.here hx rfl (hb hby at_79) rfl  q) ?_
  show Rch p ev below _ T101 (mkF m 81 #[.val (.int p1), .val (.int p2), .val (.int p3), .val (.long p4), .second, .val (.int p5), .val (.long p6), .second, .val (.int av), .val (.int bv), .val (.int (Int32.ofNat caN)), .val (.int (Int32.ofNat cbN)), .val (.int (Int32.ofNat nN)), .val (.int xv), .val (.long t1), .second, .val (.long qv), .second, .unset, .unset, .unset, .unset, .unset, .unset, .unset] [(.int xv)])
  refine Rch.go (fun _ q => XS.i2l X101.here hx rfl (hb hby at_81) rfl q) ?_
  show Rch p ev below _ T101 (mkF m 82 #[.val (.int p1), .val (.int p2), .val (.int p3), .val (.long p4), .second, .val (.int p5), .val (.long p6), .second, .val (.int av), .val (.int bv), .val (.int (Int32.ofNat caN)), .val (.int (Int32.ofNat cbN)), .val (.int (Int32.ofNat nN)), .val (.int xv), .val (.long t1), .second, .val (.long qv), .second, .unset, .unset, .unset, .unset, .unset, .unset, .unset] [(.long (xv.toInt64))])
  refine Rch.go (fun _ q => XS.iload X101.here hx rfl (hb hby at_82) rfl  q) ?_
  show Rch p ev below _ T101 (mkF m 84 #[.val (.int p1), .val (.int p2), .val (.int p3), .val (.long p4), .second, .val (.int p5), .val (.long p6), .second, .val (.int av), .val (.int bv), .val (.int (Int32.ofNat caN)), .val (.int (Int32.ofNat cbN)), .val (.int (Int32.ofNat nN)), .val (.int xv), .val (.long t1), .second, .val (.long qv), .second, .unset, .unset, .unset, .unset, .unset, .unset, .unset] [(.int (Int32.ofNat nN)), (.long (xv.toInt64))])
  refine Rch.go (fun _ q => XS.i2l X101.here hx rfl (hb hby at_84) rfl q) ?_
  show Rch p ev below _ T101 (mkF m 85 #[.val (.int p1), .val (.int p2), .val (.int p3), .val (.long p4), .second, .val (.int p5), .val (.long p6), .second, .val (.int av), .val (.int bv), .val (.int (Int32.ofNat caN)), .val (.int (Int32.ofNat cbN)), .val (.int (Int32.ofNat nN)), .val (.int xv), .val (.long t1), .second, .val (.long qv), .second, .unset, .unset, .unset, .unset, .unset, .unset, .unset] [(.long ((Int32.ofNat nN).toInt64)), (.long (xv.toInt64))])
  refine Rch.go (fun _ q => XS.lmul X101.here hx rfl (hb hby at_85) rfl q) ?_
  show Rch p ev below _ T101 (mkF m 86 #[.val (.int p1), .val (.int p2), .val (.int p3), .val (.long p4), .second, .val (.int p5), .val (.long p6), .second, .val (.int av), .val (.int bv), .val (.int (Int32.ofNat caN)), .val (.int (Int32.ofNat cbN)), .val (.int (Int32.ofNat nN)), .val (.int xv), .val (.long t1), .second, .val (.long qv), .second, .unset, .unset, .unset, .unset, .unset, .unset, .unset] [(.long ((xv.toInt64) * ((Int32.ofNat nN).toInt64)))])
  refine Rch.go (fun _ q => XS.lstore X101.here hx rfl (hb hby at_86) rfl (l' := #[.val (.int p1), .val (.int p2), .val (.int p3), .val (.long p4), .second, .val (.int p5), .val (.long p6), .second, .val (.int av), .val (.int bv), .val (.int (Int32.ofNat caN)), .val (.int (Int32.ofNat cbN)), .val (.int (Int32.ofNat nN)), .val (.int xv), .val (.long t1), .second, .val (.long qv), .second, .val (.long ((xv.toInt64) * ((Int32.ofNat nN).toInt64))), .second, .unset, .unset, .unset, .unset, .unset]) rfl q) ?_
  show Rch p ev below _ T101 (mkF m 88 #[.val (.int p1), .val (.int p2), .val (.int p3), .val (.long p4), .second, .val (.int p5), .val (.long p6), .second, .val (.int av), .val (.int bv), .val (.int (Int32.ofNat caN)), .val (.int (Int32.ofNat cbN)), .val (.int (Int32.ofNat nN)), .val (.int xv), .val (.long t1), .second, .val (.long qv), .second, .val (.long ((xv.toInt64) * ((Int32.ofNat nN).toInt64))), .second, .unset, .unset, .unset, .unset, .unset] [])
  have t2a := own_wm xv nN (by omega)
  have bx := own_pb xv hxm.1 nN (by omega)
  obtain ⟨t2, g_t2⟩ : ∃ q, q = ((xv.toInt64) * ((Int32.ofNat nN).toInt64)) := ⟨_, rfl⟩
  rw [← g_t2]
  show Rch p ev below _ T101 (mkF m 88 #[.val (.int p1), .val (.int p2), .val (.int p3), .val (.long p4), .second, .val (.int p5), .val (.long p6), .second, .val (.int av), .val (.int bv), .val (.int (Int32.ofNat caN)), .val (.int (Int32.ofNat cbN)), .val (.int (Int32.ofNat nN)), .val (.int xv), .val (.long t1), .second, .val (.long qv), .second, .val (.long t2), .second, .unset, .unset, .unset, .unset, .unset] [])
  rw [← g_t2] at t2a
  have nz2 : (t2 + (3 : Int64)) ≠ 0 := fun q => by
    have a := c_ladd t2 3
    have k3 : (3 : Int64).toInt = 3 := rfl
    have k0 : (0 : Int64).toInt = 0 := rfl
    rw [q, k0, k3] at a; omega
  refine Rch.go (fun _ q => XS.lload X101.here hx rfl (hb hby at_88) rfl  q) ?_
  show Rch p ev below _ T101 (mkF m 90 #[.val (.int p1), .val (.int p2), .val (.int p3), .val (.long p4), .second, .val (.int p5), .val (.long p6), .second, .val (.int av), .val (.int bv), .val (.int (Int32.ofNat caN)), .val (.int (Int32.ofNat cbN)), .val (.int (Int32.ofNat nN)), .val (.int xv), .val (.long t1), .second, .val (.long qv), .second, .val (.long t2), .second, .unset, .unset, .unset, .unset, .unset] [(.long p6)])
  refine Rch.go (fun _ q => XS.lload X101.here hx rfl (hb hby at_90) rfl  q) ?_
  show Rch p ev below _ T101 (mkF m 92 #[.val (.int p1), .val (.int p2), .val (.int p3), .val (.long p4), .second, .val (.int p5), .val (.long p6), .second, .val (.int av), .val (.int bv), .val (.int (Int32.ofNat caN)), .val (.int (Int32.ofNat cbN)), .val (.int (Int32.ofNat nN)), .val (.int xv), .val (.long t1), .second, .val (.long qv), .second, .val (.long t2), .second, .unset, .unset, .unset, .unset, .unset] [(.long t2), (.long p6)])
  refine Rch.go (fun _ q => X101.ldc2J hx (own := "com/example/binflow/binflow/solve/SubsetSumsClearPinLaw") hown (mvT hZ (hw _ (List.mem_of_getElem? (i := 6) rfl))) rfl (hb hby at_92) q) ?_
  show Rch p ev below _ T101 (mkF m 95 #[.val (.int p1), .val (.int p2), .val (.int p3), .val (.long p4), .second, .val (.int p5), .val (.long p6), .second, .val (.int av), .val (.int bv), .val (.int (Int32.ofNat caN)), .val (.int (Int32.ofNat cbN)), .val (.int (Int32.ofNat nN)), .val (.int xv), .val (.long t1), .second, .val (.long qv), .second, .val (.long t2), .second, .unset, .unset, .unset, .unset, .unset] [(.long (3 : Int64)), (.long t2), (.long p6)])
  refine Rch.go (fun _ q => XS.ladd X101.here hx rfl (hb hby at_95) rfl q) ?_
  show Rch p ev below _ T101 (mkF m 96 #[.val (.int p1), .val (.int p2), .val (.int p3), .val (.long p4), .second, .val (.int p5), .val (.long p6), .second, .val (.int av), .val (.int bv), .val (.int (Int32.ofNat caN)), .val (.int (Int32.ofNat cbN)), .val (.int (Int32.ofNat nN)), .val (.int xv), .val (.long t1), .second, .val (.long qv), .second, .val (.long t2), .second, .unset, .unset, .unset, .unset, .unset] [(.long (t2 + (3 : Int64))), (.long p6)])
  refine Rch.go (fun _ q => XS.lrem X101.here hx rfl (hb hby at_96) rfl nz2 q) ?_
  show Rch p ev below _ T101 (mkF m 97 #[.val (.int p1), .val (.int p2), .val (.int p3), .val (.long p4), .second, .val (.int p5), .val (.long p6), .second, .val (.int av), .val (.int bv), .val (.int (Int32.ofNat caN)), .val (.int (Int32.ofNat cbN)), .val (.int (Int32.ofNat nN)), .val (.int xv), .val (.long t1), .second, .val (.long qv), .second, .val (.long t2), .second, .unset, .unset, .unset, .unset, .unset] [(.long (p6 - (p6 / (t2 + (3 : Int64))) * (t2 + (3 : Int64))))])
  refine Rch.go (fun _ q => XS.lconst X101.here hx rfl (hb hby at_97) q) ?_
  show Rch p ev below _ T101 (mkF m 98 #[.val (.int p1), .val (.int p2), .val (.int p3), .val (.long p4), .second, .val (.int p5), .val (.long p6), .second, .val (.int av), .val (.int bv), .val (.int (Int32.ofNat caN)), .val (.int (Int32.ofNat cbN)), .val (.int (Int32.ofNat nN)), .val (.int xv), .val (.long t1), .second, .val (.long qv), .second, .val (.long t2), .second, .unset, .unset, .unset, .unset, .unset] [(.long (1 : Int64)), (.long (p6 - (p6 / (t2 + (3 : Int64))) * (t2 + (3 : Int64))))])
  refine Rch.go (fun _ q => XS.lsub X101.here hx rfl (hb hby at_98) rfl q) ?_
  show Rch p ev below _ T101 (mkF m 99 #[.val (.int p1), .val (.int p2), .val (.int p3), .val (.long p4), .second, .val (.int p5), .val (.long p6), .second, .val (.int av), .val (.int bv), .val (.int (Int32.ofNat caN)), .val (.int (Int32.ofNat cbN)), .val (.int (Int32.ofNat nN)), .val (.int xv), .val (.long t1), .second, .val (.long qv), .second, .val (.long t2), .second, .unset, .unset, .unset, .unset, .unset] [(.long ((p6 - (p6 / (t2 + (3 : Int64))) * (t2 + (3 : Int64))) - (1 : Int64)))])
  refine Rch.go (fun _ q => XS.lstore X101.here hx rfl (hb hby at_99) rfl (l' := #[.val (.int p1), .val (.int p2), .val (.int p3), .val (.long p4), .second, .val (.int p5), .val (.long p6), .second, .val (.int av), .val (.int bv), .val (.int (Int32.ofNat caN)), .val (.int (Int32.ofNat cbN)), .val (.int (Int32.ofNat nN)), .val (.int xv), .val (.long t1), .second, .val (.long qv), .second, .val (.long t2), .second, .val (.long ((p6 - (p6 / (t2 + (3 : Int64))) * (t2 + (3 : Int64))) - (1 : Int64))), .second, .unset, .unset, .unset]) rfl q) ?_
  show Rch p ev below _ T101 (mkF m 101 #[.val (.int p1), .val (.int p2), .val (.int p3), .val (.long p4), .second, .val (.int p5), .val (.long p6), .second, .val (.int av), .val (.int bv), .val (.int (Int32.ofNat caN)), .val (.int (Int32.ofNat cbN)), .val (.int (Int32.ofNat nN)), .val (.int xv), .val (.long t1), .second, .val (.long qv), .second, .val (.long t2), .second, .val (.long ((p6 - (p6 / (t2 + (3 : Int64))) * (t2 + (3 : Int64))) - (1 : Int64))), .second, .unset, .unset, .unset] [])
  obtain ⟨lw, g_lw⟩ : ∃ q, q = ((p6 - (p6 / (t2 + (3 : Int64))) * (t2 + (3 : Int64))) - (1 : Int64)) := ⟨_, rfl⟩
  rw [← g_lw]
  show Rch p ev below _ T101 (mkF m 101 #[.val (.int p1), .val (.int p2), .val (.int p3), .val (.long p4), .second, .val (.int p5), .val (.long p6), .second, .val (.int av), .val (.int bv), .val (.int (Int32.ofNat caN)), .val (.int (Int32.ofNat cbN)), .val (.int (Int32.ofNat nN)), .val (.int xv), .val (.long t1), .second, .val (.long qv), .second, .val (.long t2), .second, .val (.long lw), .second, .unset, .unset, .unset] [])
  obtain ⟨T102, h102, X102, e102, E102, A102, D102, -, st102⟩ := newO X101 hx hZ hown (hw _ (List.mem_of_getElem? (i := 7) rfl)) (hw _ (List.mem_of_getElem? (i := 8) rfl)) (hw _ (List.mem_of_getElem? (i := 9) rfl)) e101 (g := (mkF m 101 #[.val (.int p1), .val (.int p2), .val (.int p3), .val (.long p4), .second, .val (.int p5), .val (.long p6), .second, .val (.int av), .val (.int bv), .val (.int (Int32.ofNat caN)), .val (.int (Int32.ofNat cbN)), .val (.int (Int32.ofNat nN)), .val (.int xv), .val (.long t1), .second, .val (.long qv), .second, .val (.long t2), .second, .val (.long lw), .second, .unset, .unset, .unset] [])) rfl (hb hby at_101) (by decide) (by decide)
  obtain ⟨so, g102⟩ : ∃ q, q = Array.size h0 := ⟨_, rfl⟩
  rw [← g102] at A102 D102 st102
  have F_runSizes_102 : Fld Z h102 so "com/example/binflow/binflow/solve/SubsetSums" "runSizes" "[I" .null := D102 (Or.inr (hw _ (List.mem_of_getElem? (i := 23) rfl))) (ty := (.array .int)) (by decide)
  have F_runStarts_102 : Fld Z h102 so "com/example/binflow/binflow/solve/SubsetSums" "runStarts" "[I" .null := D102 (Or.inr (hw _ (List.mem_of_getElem? (i := 25) rfl))) (ty := (.array .int)) (by decide)
  have F_runCount_102 : Fld Z h102 so "com/example/binflow/binflow/solve/SubsetSums" "runCount" "I" (.int 0) := D102 (Or.inl (hw _ (List.mem_of_getElem? (i := 32) rfl))) (ty := .int) (by decide)
  have F_count_102 : Fld Z h102 so "com/example/binflow/binflow/solve/SubsetSums" "count" "I" (.int 0) := D102 (Or.inl (hw _ (List.mem_of_getElem? (i := 34) rfl))) (ty := .int) (by decide)
  have F_sum_102 : Fld Z h102 so "com/example/binflow/binflow/solve/SubsetSums" "sum" "J" (.long 0) := D102 (Or.inl (hw _ (List.mem_of_getElem? (i := 36) rfl))) (ty := .long) (by decide)
  have F_frontSums_102 : Fld Z h102 so "com/example/binflow/binflow/solve/SubsetSums" "frontSums" "[J" .null := D102 (Or.inl (hw _ (List.mem_of_getElem? (i := 18) rfl))) (ty := (.array .long)) (by decide)
  have F_frontCount_102 : Fld Z h102 so "com/example/binflow/binflow/solve/SubsetSums" "frontCount" "I" (.int 0) := D102 (Or.inl (hw _ (List.mem_of_getElem? (i := 75) rfl))) (ty := .int) (by decide)
  have F_frontRun_102 : Fld Z h102 so "com/example/binflow/binflow/solve/SubsetSums" "frontRun" "I" (.int 0) := D102 (Or.inl (hw _ (List.mem_of_getElem? (i := 86) rfl))) (ty := .int) (by decide)
  have F_backSums_102 : Fld Z h102 so "com/example/binflow/binflow/solve/SubsetSums" "backSums" "[J" .null := D102 (Or.inl (hw _ (List.mem_of_getElem? (i := 20) rfl))) (ty := (.array .long)) (by decide)
  have F_backCount_102 : Fld Z h102 so "com/example/binflow/binflow/solve/SubsetSums" "backCount" "I" (.int 0) := D102 (Or.inl (hw _ (List.mem_of_getElem? (i := 38) rfl))) (ty := .int) (by decide)
  have F_backRun_102 : Fld Z h102 so "com/example/binflow/binflow/solve/SubsetSums" "backRun" "I" (.int 0) := D102 (Or.inl (hw _ (List.mem_of_getElem? (i := 40) rfl))) (ty := .int) (by decide)
  have F_leftOutSize_102 : Fld Z h102 so "com/example/binflow/binflow/solve/SubsetSums" "leftOutSize" "I" (.int 0) := D102 (Or.inl (hw _ (List.mem_of_getElem? (i := 65) rfl))) (ty := .int) (by decide)
  have F_leftOut_102 : Fld Z h102 so "com/example/binflow/binflow/solve/SubsetSums" "leftOut" "I" (.int 0) := D102 (Or.inl (hw _ (List.mem_of_getElem? (i := 63) rfl))) (ty := .int) (by decide)
  have F_gapBelow_102 : Fld Z h102 so "com/example/binflow/binflow/solve/SubsetSums" "gapBelow" "J" (.long 0) := D102 (Or.inl (hw _ (List.mem_of_getElem? (i := 99) rfl))) (ty := .long) (by decide)
  have F_gapAbove_102 : Fld Z h102 so "com/example/binflow/binflow/solve/SubsetSums" "gapAbove" "J" (.long 0) := D102 (Or.inl (hw _ (List.mem_of_getElem? (i := 101) rfl))) (ty := .long) (by decide)
  have le_so : n0 ≤ so := by rw [g102]; exact Z0
  have Z102 : n0 ≤ h102.size := Nat.le_trans Z0 E102.1
  refine Rch.go st102 ?_
  show Rch p ev below _ T102 (mkF m 104 #[.val (.int p1), .val (.int p2), .val (.int p3), .val (.long p4), .second, .val (.int p5), .val (.long p6), .second, .val (.int av), .val (.int bv), .val (.int (Int32.ofNat caN)), .val (.int (Int32.ofNat cbN)), .val (.int (Int32.ofNat nN)), .val (.int xv), .val (.long t1), .second, .val (.long qv), .second, .val (.long t2), .second, .val (.long lw), .second, .unset, .unset, .unset] [(.ref so)])
  refine Rch.go (fun _ q => XS.dup X102.here hx rfl (hb hby at_104) rfl rfl q) ?_
  show Rch p ev below _ T102 (mkF m 105 #[.val (.int p1), .val (.int p2), .val (.int p3), .val (.long p4), .second, .val (.int p5), .val (.long p6), .second, .val (.int av), .val (.int bv), .val (.int (Int32.ofNat caN)), .val (.int (Int32.ofNat cbN)), .val (.int (Int32.ofNat nN)), .val (.int xv), .val (.long t1), .second, .val (.long qv), .second, .val (.long t2), .second, .val (.long lw), .second, .unset, .unset, .unset] [(.ref so), (.ref so)])
  refine Rch.go (fun _ q => XS.iconst X102.here hx rfl (hb hby at_105) q) ?_
  show Rch p ev below _ T102 (mkF m 106 #[.val (.int p1), .val (.int p2), .val (.int p3), .val (.long p4), .second, .val (.int p5), .val (.long p6), .second, .val (.int av), .val (.int bv), .val (.int (Int32.ofNat caN)), .val (.int (Int32.ofNat cbN)), .val (.int (Int32.ofNat nN)), .val (.int xv), .val (.long t1), .second, .val (.long qv), .second, .val (.long t2), .second, .val (.long lw), .second, .unset, .unset, .unset] [(.int (2 : Int32)), (.ref so), (.ref so)])
  have FLn : own_FL Z h102 so [.null, .null, (.int 0), (.int 0), (.long 0), .null, (.int 0), (.int 0), .null, (.int 0), (.int 0), (.int 0), (.int 0), (.long 0), (.long 0)] := fun i nm d v hi => own_nm_cases (P := fun i nm d => ∀ v, ([.null, .null, (.int 0), (.int 0), (.long 0), .null, (.int 0), (.int 0), .null, (.int 0), (.int 0), (.int 0), (.int 0), (.long 0), (.long 0)] : List Value)[i]? = some v → Fld Z h102 so "com/example/binflow/binflow/solve/SubsetSums" nm d v) ⟨fun v hv => by cases Option.some.inj hv; exact F_runSizes_102, fun v hv => by cases Option.some.inj hv; exact F_runStarts_102, fun v hv => by cases Option.some.inj hv; exact F_runCount_102, fun v hv => by cases Option.some.inj hv; exact F_count_102, fun v hv => by cases Option.some.inj hv; exact F_sum_102, fun v hv => by cases Option.some.inj hv; exact F_frontSums_102, fun v hv => by cases Option.some.inj hv; exact F_frontCount_102, fun v hv => by cases Option.some.inj hv; exact F_frontRun_102, fun v hv => by cases Option.some.inj hv; exact F_backSums_102, fun v hv => by cases Option.some.inj hv; exact F_backCount_102, fun v hv => by cases Option.some.inj hv; exact F_backRun_102, fun v hv => by cases Option.some.inj hv; exact F_leftOutSize_102, fun v hv => by cases Option.some.inj hv; exact F_leftOut_102, fun v hv => by cases Option.some.inj hv; exact F_gapBelow_102, fun v hv => by cases Option.some.inj hv; exact F_gapAbove_102⟩ i nm d hi v
  obtain ⟨_, _, ⟨T103, L103, k103, n103⟩, -, X103, ⟨Lc103, hQ103, l103, y103, z103⟩, st103⟩ := X102.specialBack hx (y := (⟨"com/example/binflow/binflow/solve/SubsetSums", "<init>", "(I)V"⟩ : MethodName)) rfl hown (mvT hZ (hw _ (List.mem_of_getElem? (i := 10) rfl))) (mvT hZ (hw _ (List.mem_of_getElem? (i := 11) rfl))) (mvT hZ (hw _ (List.mem_of_getElem? (i := 12) rfl))) (by decide) (backOf (W := 1) (rmci l Z a0 hw [] so h102 n0 Z102 FLn A102 le_so) hZ (hw _ (List.mem_of_getElem? (i := 12) rfl)) (hw _ (List.mem_of_getElem? (i := 9) rfl)) (by decide) (by decide)) (g := (mkF m 106 #[.val (.int p1), .val (.int p2), .val (.int p3), .val (.long p4), .second, .val (.int p5), .val (.long p6), .second, .val (.int av), .val (.int bv), .val (.int (Int32.ofNat caN)), .val (.int (Int32.ofNat cbN)), .val (.int (Int32.ofNat nN)), .val (.int xv), .val (.long t1), .second, .val (.long qv), .second, .val (.long t2), .second, .val (.long lw), .second, .unset, .unset, .unset] [(.int (2 : Int32)), (.ref so), (.ref so)])) rfl (by rw [hml]; rfl) (Steps.refl _) (a := so) (argsL := [(.int (2 : Int32))]) (rest := [(.ref so)]) (lenOf own_pd11 rfl) rfl (by show 2 * 0 + _ ≤ _; exact Nat.le_of_eq rfl) (hb hby at_106) (fun _ _ => ⟨rfl, e102, (by decide : 1 + 4 ≤ _), (by decide : 15 + 6 ≤ _)⟩)
  dsimp only [Pt.U, Pt.locs, Pt.cells, Pt.slots] at X103 l103 y103 z103 st103 hQ103
  subst l103 y103 z103
  obtain ⟨rfl, Nc, rs, rt, fs, bs, kr, kt, kf, kb, WA⟩ := hQ103
  refine Rch.jump st103 ?_
  show Rch p ev below _ T103 (mkF m 109 #[.val (.int p1), .val (.int p2), .val (.int p3), .val (.long p4), .second, .val (.int p5), .val (.long p6), .second, .val (.int av), .val (.int bv), .val (.int (Int32.ofNat caN)), .val (.int (Int32.ofNat cbN)), .val (.int (Int32.ofNat nN)), .val (.int xv), .val (.long t1), .second, .val (.long qv), .second, .val (.long t2), .second, .val (.long lw), .second, .unset, .unset, .unset] [(.ref so)])
  have N103 := Fr.app N101 Nc
  refine Rch.go (fun _ q => XS.astore X103.here hx rfl (hb hby at_109) rfl rfl (l' := #[.val (.int p1), .val (.int p2), .val (.int p3), .val (.long p4), .second, .val (.int p5), .val (.long p6), .second, .val (.int av), .val (.int bv), .val (.int (Int32.ofNat caN)), .val (.int (Int32.ofNat cbN)), .val (.int (Int32.ofNat nN)), .val (.int xv), .val (.long t1), .second, .val (.long qv), .second, .val (.long t2), .second, .val (.long lw), .second, .val (.ref so), .unset, .unset]) rfl q) ?_
  show Rch p ev below _ T103 (mkF m 111 #[.val (.int p1), .val (.int p2), .val (.int p3), .val (.long p4), .second, .val (.int p5), .val (.long p6), .second, .val (.int av), .val (.int bv), .val (.int (Int32.ofNat caN)), .val (.int (Int32.ofNat cbN)), .val (.int (Int32.ofNat nN)), .val (.int xv), .val (.long t1), .second, .val (.long qv), .second, .val (.long t2), .second, .val (.long lw), .second, .val (.ref so), .unset, .unset] [])
  refine Rch.go (fun _ q => XS.aload X103.here hx rfl (hb hby at_111) rfl rfl q) ?_
  show Rch p ev below _ T103 (mkF m 113 #[.val (.int p1), .val (.int p2), .val (.int p3), .val (.long p4), .second, .val (.int p5), .val (.long p6), .second, .val (.int av), .val (.int bv), .val (.int (Int32.ofNat caN)), .val (.int (Int32.ofNat cbN)), .val (.int (Int32.ofNat nN)), .val (.int xv), .val (.long t1), .second, .val (.long qv), .second, .val (.long t2), .second, .val (.long lw), .second, .val (.ref so), .unset, .unset] [(.ref so)])
  refine Rch.go (fun _ q => XS.iload X103.here hx rfl (hb hby at_113) rfl  q) ?_
  show Rch p ev below _ T103 (mkF m 115 #[.val (.int p1), .val (.int p2), .val (.int p3), .val (.long p4), .second, .val (.int p5), .val (.long p6), .second, .val (.int av), .val (.int bv), .val (.int (Int32.ofNat caN)), .val (.int (Int32.ofNat cbN)), .val (.int (Int32.ofNat nN)), .val (.int xv), .val (.long t1), .second, .val (.long qv), .second, .val (.long t2), .second, .val (.long lw), .second, .val (.ref so), .unset, .unset] [(.int av), (.ref so)])
  refine Rch.go (fun _ q => XS.iload X103.here hx rfl (hb hby at_115) rfl  q) ?_
  show Rch p ev below _ T103 (mkF m 117 #[.val (.int p1), .val (.int p2), .val (.int p3), .val (.long p4), .second, .val (.int p5), .val (.long p6), .second, .val (.int av), .val (.int bv), .val (.int (Int32.ofNat caN)), .val (.int (Int32.ofNat cbN)), .val (.int (Int32.ofNat nN)), .val (.int xv), .val (.long t1), .second, .val (.long qv), .second, .val (.long t2), .second, .val (.long lw), .second, .val (.ref so), .unset, .unset] [(.int (Int32.ofNat caN)), (.int av), (.ref so)])
  obtain ⟨cq104, kq104, q104a, q104b, q104c⟩ := isOf hZ rfl WA.1
  obtain ⟨_, _, ⟨T104, L104, k104, n104⟩, -, X104, ⟨Lc104, hQ104, l104, y104, z104⟩, st104⟩ := X103.virtualBack hx (y := (⟨"com/example/binflow/binflow/solve/SubsetSums", "add", "(II)V"⟩ : MethodName)) (z := (⟨"com/example/binflow/binflow/solve/SubsetSums", "add", "(II)V"⟩ : MethodName)) hown (mvT hZ (hw _ (List.mem_of_getElem? (i := 26) rfl))) (mvT hZ (hw _ (List.mem_of_getElem? (i := 27) rfl))) (notFace_of_selects (args := #[]) (mvT hZ (hw _ (List.mem_of_getElem? (i := 29) rfl)))) (mvT hZ (hw _ (List.mem_of_getElem? (i := 29) rfl))) (mvT hZ (hw _ (List.mem_of_getElem? (i := 28) rfl))) (by decide) (backOf (W := 0) (rmad0 l Z a0 hw [] so av rs rt fs bs kr kt kf kb [(.int 0), (.int 0)] [(.int 0), (.int 0)] [(.long 0)] [(.long 0)] 1 0 0 0 0 0 0 0 0 0 0 caN T103.heap n0 WA.2.2.2.2.2.2.1.2.2.2.2.2 WA (by omega) (by omega) (by decide) (by decide) rfl rfl rfl rfl) hZ (hw _ (List.mem_of_getElem? (i := 30) rfl)) (hw _ (List.mem_of_getElem? (i := 9) rfl)) (by decide) (by decide)) q104a q104c (g := (mkF m 117 #[.val (.int p1), .val (.int p2), .val (.int p3), .val (.long p4), .second, .val (.int p5), .val (.long p6), .second, .val (.int av), .val (.int bv), .val (.int (Int32.ofNat caN)), .val (.int (Int32.ofNat cbN)), .val (.int (Int32.ofNat nN)), .val (.int xv), .val (.long t1), .second, .val (.long qv), .second, .val (.long t2), .second, .val (.long lw), .second, .val (.ref so), .unset, .unset] [(.int (Int32.ofNat caN)), (.int av), (.ref so)])) rfl (by rw [hml]; rfl) (Steps.refl _) (argsL := [(.int av), (.int (Int32.ofNat caN))]) (rest := []) (lenOf own_pd10 rfl) rfl (by show 2 * 0 + _ ≤ _; exact Nat.le_of_eq rfl) (hb hby at_117) (fun _ _ => ⟨rfl, rfl, (by decide : 5 + 2 ≤ _), (by decide : 21 + 32 ≤ _)⟩)
  dsimp only [Pt.U, Pt.locs, Pt.cells, Pt.slots] at X104 l104 y104 z104 st104 hQ104
  subst l104 y104 z104
  obtain ⟨rfl, Nc, fs1, bs1, kf1, kb1, fl1, bl1, zl1, WB, hzb1, hzb2, hlb1, hlb2, hub1, hub2⟩ := hQ104
  refine Rch.jump st104 ?_
  show Rch p ev below _ T104 (mkF m 120 #[.val (.int p1), .val (.int p2), .val (.int p3), .val (.long p4), .second, .val (.int p5), .val (.long p6), .second, .val (.int av), .val (.int bv), .val (.int (Int32.ofNat caN)), .val (.int (Int32.ofNat cbN)), .val (.int (Int32.ofNat nN)), .val (.int xv), .val (.long t1), .second, .val (.long qv), .second, .val (.long t2), .second, .val (.long lw), .second, .val (.ref so), .unset, .unset] [])
  have N104 := Fr.app N103 Nc
  refine Rch.go (fun _ q => XS.aload X104.here hx rfl (hb hby at_120) rfl rfl q) ?_
  show Rch p ev below _ T104 (mkF m 122 #[.val (.int p1), .val (.int p2), .val (.int p3), .val (.long p4), .second, .val (.int p5), .val (.long p6), .second, .val (.int av), .val (.int bv), .val (.int (Int32.ofNat caN)), .val (.int (Int32.ofNat cbN)), .val (.int (Int32.ofNat nN)), .val (.int xv), .val (.long t1), .second, .val (.long qv), .second, .val (.long t2), .second, .val (.long lw), .second, .val (.ref so), .unset, .unset] [(.ref so)])
  refine Rch.go (fun _ q => XS.iload X104.here hx rfl (hb hby at_122) rfl  q) ?_
  show Rch p ev below _ T104 (mkF m 124 #[.val (.int p1), .val (.int p2), .val (.int p3), .val (.long p4), .second, .val (.int p5), .val (.long p6), .second, .val (.int av), .val (.int bv), .val (.int (Int32.ofNat caN)), .val (.int (Int32.ofNat cbN)), .val (.int (Int32.ofNat nN)), .val (.int xv), .val (.long t1), .second, .val (.long qv), .second, .val (.long t2), .second, .val (.long lw), .second, .val (.ref so), .unset, .unset] [(.int bv), (.ref so)])
  refine Rch.go (fun _ q => XS.iload X104.here hx rfl (hb hby at_124) rfl  q) ?_
  show Rch p ev below _ T104 (mkF m 126 #[.val (.int p1), .val (.int p2), .val (.int p3), .val (.long p4), .second, .val (.int p5), .val (.long p6), .second, .val (.int av), .val (.int bv), .val (.int (Int32.ofNat caN)), .val (.int (Int32.ofNat cbN)), .val (.int (Int32.ofNat nN)), .val (.int xv), .val (.long t1), .second, .val (.long qv), .second, .val (.long t2), .second, .val (.long lw), .second, .val (.ref so), .unset, .unset] [(.int (Int32.ofNat cbN)), (.int bv), (.ref so)])
  obtain ⟨cq105, kq105, q105a, q105b, q105c⟩ := isOf hZ rfl WB.1
  obtain ⟨_, _, ⟨T105, L105, k105, n105⟩, -, X105, ⟨Lc105, hQ105, l105, y105, z105⟩, st105⟩ := X104.virtualBack hx (y := (⟨"com/example/binflow/binflow/solve/SubsetSums", "add", "(II)V"⟩ : MethodName)) (z := (⟨"com/example/binflow/binflow/solve/SubsetSums", "add", "(II)V"⟩ : MethodName)) hown (mvT hZ (hw _ (List.mem_of_getElem? (i := 26) rfl))) (mvT hZ (hw _ (List.mem_of_getElem? (i := 27) rfl))) (notFace_of_selects (args := #[]) (mvT hZ (hw _ (List.mem_of_getElem? (i := 29) rfl)))) (mvT hZ (hw _ (List.mem_of_getElem? (i := 29) rfl))) (mvT hZ (hw _ (List.mem_of_getElem? (i := 28) rfl))) (by decide) (backOf (W := 0) (rmad1 l Z a0 hw [] so bv rs rt fs1 bs1 kr kt kf1 kb1 ([(.int 0), (.int 0)].set 0 (.int av)) ([(.int 0), (.int 0)].set 0 (.int (Int32.ofNat 0))) fl1 bl1 zl1 0 0 0 0 0 0 (0 + (av.toInt64 * (Int32.ofNat caN).toInt64)) 0 0 (0 + caN) cbN T104.heap n0 WB.2.2.2.2.2.2.1.2.2.2.2.2 WB (by omega) (by omega) (by omega) hzb2 rfl rfl hlb1 hlb2) hZ (hw _ (List.mem_of_getElem? (i := 30) rfl)) (hw _ (List.mem_of_getElem? (i := 9) rfl)) (by decide) (by decide)) q105a q105c (g := (mkF m 126 #[.val (.int p1), .val (.int p2), .val (.int p3), .val (.long p4), .second, .val (.int p5), .val (.long p6), .second, .val (.int av), .val (.int bv), .val (.int (Int32.ofNat caN)), .val (.int (Int32.ofNat cbN)), .val (.int (Int32.ofNat nN)), .val (.int xv), .val (.long t1), .second, .val (.long qv), .second, .val (.long t2), .second, .val (.long lw), .second, .val (.ref so), .unset, .unset] [(.int (Int32.ofNat cbN)), (.int bv), (.ref so)])) rfl (by rw [hml]; rfl) (Steps.refl _) (argsL := [(.int bv), (.int (Int32.ofNat cbN))]) (rest := []) (lenOf own_pd10 rfl) rfl (by show 2 * 0 + _ ≤ _; exact Nat.le_of_eq rfl) (hb hby at_126) (fun _ _ => ⟨rfl, rfl, (by decide : 7 + 2 ≤ _), (by decide : 53 + 32 ≤ _)⟩)
  dsimp only [Pt.U, Pt.locs, Pt.cells, Pt.slots] at X105 l105 y105 z105 st105 hQ105
  subst l105 y105 z105
  obtain ⟨rfl, Nc, fs2, bs2, kf2, kb2, fl2, bl2, zl2, WC, hzc1, hzc2, hlc1, hlc2, huc1, huc2⟩ := hQ105
  refine Rch.jump st105 ?_
  show Rch p ev below _ T105 (mkF m 129 #[.val (.int p1), .val (.int p2), .val (.int p3), .val (.long p4), .second, .val (.int p5), .val (.long p6), .second, .val (.int av), .val (.int bv), .val (.int (Int32.ofNat caN)), .val (.int (Int32.ofNat cbN)), .val (.int (Int32.ofNat nN)), .val (.int xv), .val (.long t1), .second, .val (.long qv), .second, .val (.long t2), .second, .val (.long lw), .second, .val (.ref so), .unset, .unset] [])
  have N105 := Fr.app N104 Nc
  have F2 := own_F_two (A := av.toInt) (B := bv.toInt) (e := 0 + caN) cbN
  have hsm2 : (0 + (av.toInt64 * (Int32.ofNat caN).toInt64)) + (bv.toInt64 * (Int32.ofNat cbN).toInt64) = own_L (own_F av.toInt bv.toInt (0 + caN) (0 + caN + cbN)) := by
    rw [F2, Nat.zero_add, Int64.zero_add, ← Int64.toInt_inj, own_L_int _ (by omega) (by omega)]
    have q := c_ladd (av.toInt64 * (Int32.ofNat caN).toInt64) (bv.toInt64 * (Int32.ofNat cbN).toInt64)
    have q2 := rng64 ((av.toInt64 * (Int32.ofNat caN).toInt64) + (bv.toInt64 * (Int32.ofNat cbN).toInt64))
    omega
  have hIf : own_If av bv (0 + caN) (0 + caN + cbN) zl2 fl2 0 0 := by
    refine ⟨by omega, Or.inl ⟨rfl, by omega⟩, hlc1, fun i hi => ?_⟩
    have q : i = 0 := by omega
    rw [q, huc1, hub1]; rfl
  have hIb : own_Ib av bv (0 + caN) (0 + caN + cbN) 2 zl2 bl2 0 1 := by
    refine ⟨by omega, Or.inr ⟨rfl, Or.inl ⟨rfl, by omega⟩⟩, hlc2, fun i hi => ?_⟩
    have q : i = 0 := by omega
    rw [q, huc2, hub2, Nat.sub_zero, Int.sub_self]; rfl
  have SC : own_Sg Z T105.heap n0 so av bv (0 + caN) (0 + caN + cbN) 2 0 0 := ⟨0, 0, rs, rt, fs2, bs2, kr, kt, kf2, kb2, _, _, fl2, bl2, zl2, 0, 1, 0, _, 0, WC, ⟨ha.1, hbm, by omega, by omega, by omega, Or.inr ⟨rfl, by omega⟩, rfl, fun _ => rfl, rfl, fun _ => rfl, hzc1, hzc2, hsm2, rfl, rfl⟩, hIf, hIb⟩
  refine Rch.go (fun _ q => XS.aload X105.here hx rfl (hb hby at_129) rfl rfl q) ?_
  show Rch p ev below _ T105 (mkF m 131 #[.val (.int p1), .val (.int p2), .val (.int p3), .val (.long p4), .second, .val (.int p5), .val (.long p6), .second, .val (.int av), .val (.int bv), .val (.int (Int32.ofNat caN)), .val (.int (Int32.ofNat cbN)), .val (.int (Int32.ofNat nN)), .val (.int xv), .val (.long t1), .second, .val (.long qv), .second, .val (.long t2), .second, .val (.long lw), .second, .val (.ref so), .unset, .unset] [(.ref so)])
  refine Rch.go (fun _ q => XS.lload X105.here hx rfl (hb hby at_131) rfl  q) ?_
  show Rch p ev below _ T105 (mkF m 133 #[.val (.int p1), .val (.int p2), .val (.int p3), .val (.long p4), .second, .val (.int p5), .val (.long p6), .second, .val (.int av), .val (.int bv), .val (.int (Int32.ofNat caN)), .val (.int (Int32.ofNat cbN)), .val (.int (Int32.ofNat nN)), .val (.int xv), .val (.long t1), .second, .val (.long qv), .second, .val (.long t2), .second, .val (.long lw), .second, .val (.ref so), .unset, .unset] [(.long qv), (.ref so)])
  obtain ⟨cq106, kq106, q106a, q106b, q106c⟩ := isOf hZ rfl (own_Sg_exa SC)
  obtain ⟨_, _, ⟨T106, L106, k106, n106⟩, -, X106, ⟨Lc106, hQ106, l106, y106, z106⟩, st106⟩ := X105.virtualBack hx (y := (⟨"com/example/binflow/binflow/solve/SubsetSums", "leastFrom", "(J)J"⟩ : MethodName)) (z := (⟨"com/example/binflow/binflow/solve/SubsetSums", "leastFrom", "(J)J"⟩ : MethodName)) hown (mvT hZ (hw _ (List.mem_of_getElem? (i := 53) rfl))) (mvT hZ (hw _ (List.mem_of_getElem? (i := 54) rfl))) (notFace_of_selects (args := #[]) (mvT hZ (hw _ (List.mem_of_getElem? (i := 56) rfl)))) (mvT hZ (hw _ (List.mem_of_getElem? (i := 56) rfl))) (mvT hZ (hw _ (List.mem_of_getElem? (i := 55) rfl))) (by decide) (backOf (W := 0) (rmlf l Z a0 hw [] so qv av bv (0 + caN) (0 + caN + cbN) 2 0 0 T105.heap n0 WC.2.2.2.2.2.2.1.2.2.2.2.2 SC) hZ (hw _ (List.mem_of_getElem? (i := 57) rfl)) (hw _ (List.mem_of_getElem? (i := 9) rfl)) (by decide) (by decide)) q106a q106c (g := (mkF m 133 #[.val (.int p1), .val (.int p2), .val (.int p3), .val (.long p4), .second, .val (.int p5), .val (.long p6), .second, .val (.int av), .val (.int bv), .val (.int (Int32.ofNat caN)), .val (.int (Int32.ofNat cbN)), .val (.int (Int32.ofNat nN)), .val (.int xv), .val (.long t1), .second, .val (.long qv), .second, .val (.long t2), .second, .val (.long lw), .second, .val (.ref so), .unset, .unset] [(.long qv), (.ref so)])) rfl (by rw [hml]; rfl) (Steps.refl _) (argsL := [(.long qv)]) (rest := []) (lenOf own_pd7 rfl) rfl (by show 2 * 0 + _ ≤ _; exact Nat.le_of_eq rfl) (hb hby at_133) (fun _ _ => ⟨rfl, rfl, (by decide : 9 + 0 ≤ _), (by decide : 85 + 0 ≤ _)⟩)
  dsimp only [Pt.U, Pt.locs, Pt.cells, Pt.slots] at X106 l106 y106 z106 st106 hQ106
  subst l106 y106 z106
  obtain ⟨res1, ga1, rr1, rfl, Nc, SD, -, -⟩ := hQ106
  refine Rch.jump st106 ?_
  show Rch p ev below _ T106 (mkF m 136 #[.val (.int p1), .val (.int p2), .val (.int p3), .val (.long p4), .second, .val (.int p5), .val (.long p6), .second, .val (.int av), .val (.int bv), .val (.int (Int32.ofNat caN)), .val (.int (Int32.ofNat cbN)), .val (.int (Int32.ofNat nN)), .val (.int xv), .val (.long t1), .second, .val (.long qv), .second, .val (.long t2), .second, .val (.long lw), .second, .val (.ref so), .unset, .unset] [(.long res1)])
  have N106 := Fr.app N105 Nc
  refine Rch.go (fun _ q => own_pop2 X106.here hx rfl (hb hby at_136) rfl q) ?_
  show Rch p ev below _ T106 (mkF m 137 #[.val (.int p1), .val (.int p2), .val (.int p3), .val (.long p4), .second, .val (.int p5), .val (.long p6), .second, .val (.int av), .val (.int bv), .val (.int (Int32.ofNat caN)), .val (.int (Int32.ofNat cbN)), .val (.int (Int32.ofNat nN)), .val (.int xv), .val (.long t1), .second, .val (.long qv), .second, .val (.long t2), .second, .val (.long lw), .second, .val (.ref so), .unset, .unset] [])
  refine Rch.go (fun _ q => XS.aload X106.here hx rfl (hb hby at_137) rfl rfl q) ?_
  show Rch p ev below _ T106 (mkF m 139 #[.val (.int p1), .val (.int p2), .val (.int p3), .val (.long p4), .second, .val (.int p5), .val (.long p6), .second, .val (.int av), .val (.int bv), .val (.int (Int32.ofNat caN)), .val (.int (Int32.ofNat cbN)), .val (.int (Int32.ofNat nN)), .val (.int xv), .val (.long t1), .second, .val (.long qv), .second, .val (.long t2), .second, .val (.long lw), .second, .val (.ref so), .unset, .unset] [(.ref so)])
  obtain ⟨fc, bc, rs, rt, fs, bs, kr, kt, kf, kb, rl, tl, fl, bl, zl, fr, br, los, sm, gb, WD, Is, If, Ib⟩ := SD
  obtain ⟨-, -, -, -, -, -, -, -, -, -, zN, z16, -, hrl2, htl2⟩ := Is
  obtain ⟨-, -, hfl, hf0⟩ := If
  obtain ⟨-, -, hbl, hb0⟩ := Ib
  obtain ⟨cq107, kq107, q107a, q107b, q107c⟩ := isOf hZ rfl WD.1
  obtain ⟨_, _, ⟨T107, L107, k107, n107⟩, -, X107, ⟨Lc107, hQ107, l107, y107, z107⟩, st107⟩ := X106.virtualBack hx (y := (⟨"com/example/binflow/binflow/solve/SubsetSums", "clear", "()V"⟩ : MethodName)) (z := (⟨"com/example/binflow/binflow/solve/SubsetSums", "clear", "()V"⟩ : MethodName)) hown (mvT hZ (hw _ (List.mem_of_getElem? (i := 80) rfl))) (mvT hZ (hw _ (List.mem_of_getElem? (i := 81) rfl))) (notFace_of_selects (args := #[]) (mvT hZ (hw _ (List.mem_of_getElem? (i := 83) rfl)))) (mvT hZ (hw _ (List.mem_of_getElem? (i := 83) rfl))) (mvT hZ (hw _ (List.mem_of_getElem? (i := 82) rfl))) (by decide) (backOf (W := 0) (rmcl l Z a0 hw [] so rs rt fs bs kr kt kf kb rl tl fl bl zl 2 (Int32.ofNat (0 + caN + cbN)) (Int32.ofNat fc) fr (Int32.ofNat bc) br los (-1 : Int32) sm gb ga1 T106.heap n0 WD.2.2.2.2.2.2.1.2.2.2.2.2 WD) hZ (hw _ (List.mem_of_getElem? (i := 84) rfl)) (hw _ (List.mem_of_getElem? (i := 9) rfl)) (by decide) (by decide)) q107a q107c (g := (mkF m 139 #[.val (.int p1), .val (.int p2), .val (.int p3), .val (.long p4), .second, .val (.int p5), .val (.long p6), .second, .val (.int av), .val (.int bv), .val (.int (Int32.ofNat caN)), .val (.int (Int32.ofNat cbN)), .val (.int (Int32.ofNat nN)), .val (.int xv), .val (.long t1), .second, .val (.long qv), .second, .val (.long t2), .second, .val (.long lw), .second, .val (.ref so), .unset, .unset] [(.ref so)])) rfl (by rw [hml]; rfl) (Steps.refl _) (argsL := []) (rest := []) (lenOf own_pd8 rfl) rfl (by show 2 * 0 + _ ≤ _; exact Nat.le_of_eq rfl) (hb hby at_139) (fun _ _ => ⟨rfl, rfl, (by decide : 9 + 0 ≤ _), (by decide : 85 + 0 ≤ _)⟩)
  dsimp only [Pt.U, Pt.locs, Pt.cells, Pt.slots] at X107 l107 y107 z107 st107 hQ107
  subst l107 y107 z107
  obtain ⟨rfl, Nc, WE⟩ := hQ107
  refine Rch.jump st107 ?_
  show Rch p ev below _ T107 (mkF m 142 #[.val (.int p1), .val (.int p2), .val (.int p3), .val (.long p4), .second, .val (.int p5), .val (.long p6), .second, .val (.int av), .val (.int bv), .val (.int (Int32.ofNat caN)), .val (.int (Int32.ofNat cbN)), .val (.int (Int32.ofNat nN)), .val (.int xv), .val (.long t1), .second, .val (.long qv), .second, .val (.long t2), .second, .val (.long lw), .second, .val (.ref so), .unset, .unset] [])
  have N107 := Fr.app N106 Nc
  refine Rch.go (fun _ q => XS.aload X107.here hx rfl (hb hby at_142) rfl rfl q) ?_
  show Rch p ev below _ T107 (mkF m 144 #[.val (.int p1), .val (.int p2), .val (.int p3), .val (.long p4), .second, .val (.int p5), .val (.long p6), .second, .val (.int av), .val (.int bv), .val (.int (Int32.ofNat caN)), .val (.int (Int32.ofNat cbN)), .val (.int (Int32.ofNat nN)), .val (.int xv), .val (.long t1), .second, .val (.long qv), .second, .val (.long t2), .second, .val (.long lw), .second, .val (.ref so), .unset, .unset] [(.ref so)])
  obtain ⟨cq108, kq108, q108a, q108b, q108c⟩ := isOf hZ rfl WE.1
  obtain ⟨_, _, ⟨T108, L108, k108, n108⟩, -, X108, ⟨Lc108, hQ108, l108, y108, z108⟩, st108⟩ := X107.virtualBack hx (y := (⟨"com/example/binflow/binflow/solve/SubsetSums", "runCount", "()I"⟩ : MethodName)) (z := (⟨"com/example/binflow/binflow/solve/SubsetSums", "runCount", "()I"⟩ : MethodName)) hown (mvT hZ (hw _ (List.mem_of_getElem? (i := 87) rfl))) (mvT hZ (hw _ (List.mem_of_getElem? (i := 88) rfl))) (notFace_of_selects (args := #[]) (mvT hZ (hw _ (List.mem_of_getElem? (i := 90) rfl)))) (mvT hZ (hw _ (List.mem_of_getElem? (i := 90) rfl))) (mvT hZ (hw _ (List.mem_of_getElem? (i := 89) rfl))) (by decide) (backOf (W := 0) (rmrc l Z a0 hw [] so rs rt fs bs kr kt kf kb rl tl fl bl zl 0 0 0 0 0 br los (-1 : Int32) 0 gb ga1 T107.heap n0 WE.2.2.2.2.2.2.1.2.2.2.2.2 WE) hZ (hw _ (List.mem_of_getElem? (i := 91) rfl)) (hw _ (List.mem_of_getElem? (i := 9) rfl)) (by decide) (by decide)) q108a q108c (g := (mkF m 144 #[.val (.int p1), .val (.int p2), .val (.int p3), .val (.long p4), .second, .val (.int p5), .val (.long p6), .second, .val (.int av), .val (.int bv), .val (.int (Int32.ofNat caN)), .val (.int (Int32.ofNat cbN)), .val (.int (Int32.ofNat nN)), .val (.int xv), .val (.long t1), .second, .val (.long qv), .second, .val (.long t2), .second, .val (.long lw), .second, .val (.ref so), .unset, .unset] [(.ref so)])) rfl (by rw [hml]; rfl) (Steps.refl _) (argsL := []) (rest := []) (lenOf own_pd9 rfl) rfl (by show 2 * 0 + _ ≤ _; exact Nat.le_of_eq rfl) (hb hby at_144) (fun _ _ => ⟨rfl, rfl, (by decide : 9 + 0 ≤ _), (by decide : 85 + 0 ≤ _)⟩)
  dsimp only [Pt.U, Pt.locs, Pt.cells, Pt.slots] at X108 l108 y108 z108 st108 hQ108
  subst l108 y108 z108
  obtain ⟨rfl, Nc, ec⟩ := hQ108
  refine Rch.jump st108 ?_
  show Rch p ev below _ T108 (mkF m 147 #[.val (.int p1), .val (.int p2), .val (.int p3), .val (.long p4), .second, .val (.int p5), .val (.long p6), .second, .val (.int av), .val (.int bv), .val (.int (Int32.ofNat caN)), .val (.int (Int32.ofNat cbN)), .val (.int (Int32.ofNat nN)), .val (.int xv), .val (.long t1), .second, .val (.long qv), .second, .val (.long t2), .second, .val (.long lw), .second, .val (.ref so), .unset, .unset] [(.int (0 : Int32))])
  have N108 := Fr.app N107 Nc
  have e108 := ec
  refine Rch.go (fun _ q => XS.ifYes X108.here hx rfl (pc0 := 147) (pc' := 152) rfl (hb hby at_147) rfl ((if0 _ _).trans (teq (by decide)).1) (by decide) (by decide) q) ?_
  show Rch p ev below _ T108 (mkF m 152 #[.val (.int p1), .val (.int p2), .val (.int p3), .val (.long p4), .second, .val (.int p5), .val (.long p6), .second, .val (.int av), .val (.int bv), .val (.int (Int32.ofNat caN)), .val (.int (Int32.ofNat cbN)), .val (.int (Int32.ofNat nN)), .val (.int xv), .val (.long t1), .second, .val (.long qv), .second, .val (.long t2), .second, .val (.long lw), .second, .val (.ref so), .unset, .unset] [])
  refine Rch.go (fun _ q => XS.aload X108.here hx rfl (hb hby at_152) rfl rfl q) ?_
  show Rch p ev below _ T108 (mkF m 154 #[.val (.int p1), .val (.int p2), .val (.int p3), .val (.long p4), .second, .val (.int p5), .val (.long p6), .second, .val (.int av), .val (.int bv), .val (.int (Int32.ofNat caN)), .val (.int (Int32.ofNat cbN)), .val (.int (Int32.ofNat nN)), .val (.int xv), .val (.long t1), .second, .val (.long qv), .second, .val (.long t2), .second, .val (.long lw), .second, .val (.ref so), .unset, .unset] [(.ref so)])
  refine Rch.go (fun _ q => XS.iload X108.here hx rfl (hb hby at_154) rfl  q) ?_
  show Rch p ev below _ T108 (mkF m 156 #[.val (.int p1), .val (.int p2), .val (.int p3), .val (.long p4), .second, .val (.int p5), .val (.long p6), .second, .val (.int av), .val (.int bv), .val (.int (Int32.ofNat caN)), .val (.int (Int32.ofNat cbN)), .val (.int (Int32.ofNat nN)), .val (.int xv), .val (.long t1), .second, .val (.long qv), .second, .val (.long t2), .second, .val (.long lw), .second, .val (.ref so), .unset, .unset] [(.int xv), (.ref so)])
  refine Rch.go (fun _ q => XS.iload X108.here hx rfl (hb hby at_156) rfl  q) ?_
  show Rch p ev below _ T108 (mkF m 158 #[.val (.int p1), .val (.int p2), .val (.int p3), .val (.long p4), .second, .val (.int p5), .val (.long p6), .second, .val (.int av), .val (.int bv), .val (.int (Int32.ofNat caN)), .val (.int (Int32.ofNat cbN)), .val (.int (Int32.ofNat nN)), .val (.int xv), .val (.long t1), .second, .val (.long qv), .second, .val (.long t2), .second, .val (.long lw), .second, .val (.ref so), .unset, .unset] [(.int (Int32.ofNat nN)), (.int xv), (.ref so)])
  obtain ⟨cq109, kq109, q109a, q109b, q109c⟩ := isOf hZ e108 WE.1
  obtain ⟨_, _, ⟨T109, L109, k109, n109⟩, -, X109, ⟨Lc109, hQ109, l109, y109, z109⟩, st109⟩ := X108.virtualBack hx (y := (⟨"com/example/binflow/binflow/solve/SubsetSums", "add", "(II)V"⟩ : MethodName)) (z := (⟨"com/example/binflow/binflow/solve/SubsetSums", "add", "(II)V"⟩ : MethodName)) hown (mvT hZ (hw _ (List.mem_of_getElem? (i := 26) rfl))) (mvT hZ (hw _ (List.mem_of_getElem? (i := 27) rfl))) (notFace_of_selects (args := #[]) (mvT hZ (hw _ (List.mem_of_getElem? (i := 29) rfl)))) (mvT hZ (hw _ (List.mem_of_getElem? (i := 29) rfl))) (mvT hZ (hw _ (List.mem_of_getElem? (i := 28) rfl))) (by decide) (backOf (W := 0) (rmad0 l Z a0 hw [] so xv rs rt fs bs kr kt kf kb rl tl fl bl zl 0 0 0 br los (-1 : Int32) 0 gb ga1 0 nN T107.heap n0 WE.2.2.2.2.2.2.1.2.2.2.2.2 WE (by omega) (by omega) (by omega) z16 hrl2 htl2 hfl hbl) hZ (hw _ (List.mem_of_getElem? (i := 30) rfl)) (hw _ (List.mem_of_getElem? (i := 9) rfl)) (by decide) (by decide)) q109a q109c (g := (mkF m 158 #[.val (.int p1), .val (.int p2), .val (.int p3), .val (.long p4), .second, .val (.int p5), .val (.long p6), .second, .val (.int av), .val (.int bv), .val (.int (Int32.ofNat caN)), .val (.int (Int32.ofNat cbN)), .val (.int (Int32.ofNat nN)), .val (.int xv), .val (.long t1), .second, .val (.long qv), .second, .val (.long t2), .second, .val (.long lw), .second, .val (.ref so), .unset, .unset] [(.int (Int32.ofNat nN)), (.int xv), (.ref so)])) rfl (by rw [hml]; rfl) (Steps.refl _) (argsL := [(.int xv), (.int (Int32.ofNat nN))]) (rest := []) (lenOf own_pd10 rfl) rfl (by show 2 * 0 + _ ≤ _; exact Nat.le_of_eq rfl) (hb hby at_158) (fun _ _ => ⟨rfl, e108, (by decide : 9 + 2 ≤ _), (by decide : 85 + 32 ≤ _)⟩)
  dsimp only [Pt.U, Pt.locs, Pt.cells, Pt.slots] at X109 l109 y109 z109 st109 hQ109
  subst l109 y109 z109
  obtain ⟨rfl, Nc, fs2, bs2, kf2, kb2, fl2, bl2, zl2, WF, hzf1, hzf2, hlf1, hlf2, huf1, huf2⟩ := hQ109
  refine Rch.jump st109 ?_
  show Rch p ev below _ T109 (mkF m 161 #[.val (.int p1), .val (.int p2), .val (.int p3), .val (.long p4), .second, .val (.int p5), .val (.long p6), .second, .val (.int av), .val (.int bv), .val (.int (Int32.ofNat caN)), .val (.int (Int32.ofNat cbN)), .val (.int (Int32.ofNat nN)), .val (.int xv), .val (.long t1), .second, .val (.long qv), .second, .val (.long t2), .second, .val (.long lw), .second, .val (.ref so), .unset, .unset] [])
  have N109 := Fr.app N108 Nc
  refine Rch.go (fun _ q => XS.aload X109.here hx rfl (hb hby at_161) rfl rfl q) ?_
  show Rch p ev below _ T109 (mkF m 163 #[.val (.int p1), .val (.int p2), .val (.int p3), .val (.long p4), .second, .val (.int p5), .val (.long p6), .second, .val (.int av), .val (.int bv), .val (.int (Int32.ofNat caN)), .val (.int (Int32.ofNat cbN)), .val (.int (Int32.ofNat nN)), .val (.int xv), .val (.long t1), .second, .val (.long qv), .second, .val (.long t2), .second, .val (.long lw), .second, .val (.ref so), .unset, .unset] [(.ref so)])
  refine Rch.go (fun _ q => XS.iconst X109.here hx rfl (hb hby at_163) q) ?_
  show Rch p ev below _ T109 (mkF m 164 #[.val (.int p1), .val (.int p2), .val (.int p3), .val (.long p4), .second, .val (.int p5), .val (.long p6), .second, .val (.int av), .val (.int bv), .val (.int (Int32.ofNat caN)), .val (.int (Int32.ofNat cbN)), .val (.int (Int32.ofNat nN)), .val (.int xv), .val (.long t1), .second, .val (.long qv), .second, .val (.long t2), .second, .val (.long lw), .second, .val (.ref so), .unset, .unset] [(.int (0 : Int32)), (.ref so)])
  have hx0 : (rl.set 0 (.int xv)).getD 0 (.int 0) = .int xv := by rw [own_getD_set _ _ _ _ _ (by omega)]; rfl
  have ht0 : (tl.set 0 (.int (Int32.ofNat 0))).getD 0 (.int 0) = .int 0 := by rw [own_getD_set _ _ _ _ _ (by omega)]; rfl
  obtain ⟨cq110, kq110, q110a, q110b, q110c⟩ := isOf hZ rfl WF.1
  obtain ⟨_, _, ⟨T110, L110, k110, n110⟩, -, X110, ⟨Lc110, hQ110, l110, y110, z110⟩, st110⟩ := X109.virtualBack hx (y := (⟨"com/example/binflow/binflow/solve/SubsetSums", "runSize", "(I)I"⟩ : MethodName)) (z := (⟨"com/example/binflow/binflow/solve/SubsetSums", "runSize", "(I)I"⟩ : MethodName)) hown (mvT hZ (hw _ (List.mem_of_getElem? (i := 92) rfl))) (mvT hZ (hw _ (List.mem_of_getElem? (i := 93) rfl))) (notFace_of_selects (args := #[]) (mvT hZ (hw _ (List.mem_of_getElem? (i := 95) rfl)))) (mvT hZ (hw _ (List.mem_of_getElem? (i := 95) rfl))) (mvT hZ (hw _ (List.mem_of_getElem? (i := 94) rfl))) (by decide) (backOf (W := 0) (rmrz l Z a0 hw [] so rs rt fs2 bs2 kr kt kf2 kb2 (rl.set 0 (.int xv)) (tl.set 0 (.int (Int32.ofNat 0))) fl2 bl2 zl2 1 (Int32.ofNat (0 + nN)) 0 0 0 0 los (-1 : Int32) (0 + (xv.toInt64 * (Int32.ofNat nN).toInt64)) gb ga1 xv T109.heap n0 WF.2.2.2.2.2.2.1.2.2.2.2.2 WF hx0) hZ (hw _ (List.mem_of_getElem? (i := 96) rfl)) (hw _ (List.mem_of_getElem? (i := 9) rfl)) (by decide) (by decide)) q110a q110c (g := (mkF m 164 #[.val (.int p1), .val (.int p2), .val (.int p3), .val (.long p4), .second, .val (.int p5), .val (.long p6), .second, .val (.int av), .val (.int bv), .val (.int (Int32.ofNat caN)), .val (.int (Int32.ofNat cbN)), .val (.int (Int32.ofNat nN)), .val (.int xv), .val (.long t1), .second, .val (.long qv), .second, .val (.long t2), .second, .val (.long lw), .second, .val (.ref so), .unset, .unset] [(.int (0 : Int32)), (.ref so)])) rfl (by rw [hml]; rfl) (Steps.refl _) (argsL := [(.int (0 : Int32))]) (rest := []) (lenOf own_pd2 rfl) rfl (by show 2 * 0 + _ ≤ _; exact Nat.le_of_eq rfl) (hb hby at_164) (fun _ _ => ⟨rfl, rfl, (by decide : 11 + 0 ≤ _), (by decide : 117 + 0 ≤ _)⟩)
  dsimp only [Pt.U, Pt.locs, Pt.cells, Pt.slots] at X110 l110 y110 z110 st110 hQ110
  subst l110 y110 z110
  obtain ⟨rfl, Nc, ec⟩ := hQ110
  refine Rch.jump st110 ?_
  show Rch p ev below _ T110 (mkF m 167 #[.val (.int p1), .val (.int p2), .val (.int p3), .val (.long p4), .second, .val (.int p5), .val (.long p6), .second, .val (.int av), .val (.int bv), .val (.int (Int32.ofNat caN)), .val (.int (Int32.ofNat cbN)), .val (.int (Int32.ofNat nN)), .val (.int xv), .val (.long t1), .second, .val (.long qv), .second, .val (.long t2), .second, .val (.long lw), .second, .val (.ref so), .unset, .unset] [(.int xv)])
  have N110 := Fr.app N109 Nc
  have e110 := ec
  have hsm3 : (0 + (xv.toInt64 * (Int32.ofNat nN).toInt64)) = own_L (own_F xv.toInt xv.toInt (0 + nN) (0 + nN)) := by
    rw [own_F_one _ (Nat.le_refl _), Nat.zero_add, Int64.zero_add, ← Int64.toInt_inj, own_L_int _ (by omega) (by omega), own_wm xv nN (by omega)]
  have hIf : own_If xv xv (0 + nN) (0 + nN) zl2 fl2 0 0 := by
    refine ⟨by omega, Or.inl ⟨rfl, by omega⟩, hlf1, fun i hi => ?_⟩
    have q : i = 0 := by omega
    rw [q, huf1]; exact hf0 0 (by omega)
  have hIb : own_Ib xv xv (0 + nN) (0 + nN) 1 zl2 bl2 0 0 := by
    refine ⟨by omega, Or.inl ⟨rfl, rfl⟩, hlf2, fun i hi => ?_⟩
    have q : i = 0 := by omega
    have q2 := hb0 0 (by omega)
    rw [Nat.sub_zero, Int.sub_self] at q2
    rw [q, huf2, Nat.sub_zero, Int.sub_self]; exact q2
  have SG : own_Sg Z T109.heap n0 so xv xv (0 + nN) (0 + nN) 1 (-1) ga1 := ⟨0, 0, rs, rt, fs2, bs2, kr, kt, kf2, kb2, _, _, fl2, bl2, zl2, 0, 0, los, _, gb, WF, ⟨hxm.1, hxm.1, by omega, by omega, by omega, Or.inl ⟨rfl, rfl⟩, hx0, (fun q => absurd q (by decide)), ht0, (fun q => absurd q (by decide)), hzf1, hzf2, hsm3, (by rw [List.length_set]; exact hrl2), (by rw [List.length_set]; exact htl2)⟩, hIf, hIb⟩
  refine Rch.go (fun _ q => XS.iload X110.here hx rfl (hb hby at_167) rfl  q) ?_
  show Rch p ev below _ T110 (mkF m 169 #[.val (.int p1), .val (.int p2), .val (.int p3), .val (.long p4), .second, .val (.int p5), .val (.long p6), .second, .val (.int av), .val (.int bv), .val (.int (Int32.ofNat caN)), .val (.int (Int32.ofNat cbN)), .val (.int (Int32.ofNat nN)), .val (.int xv), .val (.long t1), .second, .val (.long qv), .second, .val (.long t2), .second, .val (.long lw), .second, .val (.ref so), .unset, .unset] [(.int xv), (.int xv)])
  refine Rch.go (fun _ q => XS.icmpYes X110.here hx rfl (pc0 := 169) (pc' := 174) rfl (hb hby at_169) rfl (teq (rfl : xv = xv)).1 (by decide) (by decide) q) ?_
  show Rch p ev below _ T110 (mkF m 174 #[.val (.int p1), .val (.int p2), .val (.int p3), .val (.long p4), .second, .val (.int p5), .val (.long p6), .second, .val (.int av), .val (.int bv), .val (.int (Int32.ofNat caN)), .val (.int (Int32.ofNat cbN)), .val (.int (Int32.ofNat nN)), .val (.int xv), .val (.long t1), .second, .val (.long qv), .second, .val (.long t2), .second, .val (.long lw), .second, .val (.ref so), .unset, .unset] [])
  refine Rch.go (fun _ q => XS.lload X110.here hx rfl (hb hby at_174) rfl  q) ?_
  show Rch p ev below _ T110 (mkF m 176 #[.val (.int p1), .val (.int p2), .val (.int p3), .val (.long p4), .second, .val (.int p5), .val (.long p6), .second, .val (.int av), .val (.int bv), .val (.int (Int32.ofNat caN)), .val (.int (Int32.ofNat cbN)), .val (.int (Int32.ofNat nN)), .val (.int xv), .val (.long t1), .second, .val (.long qv), .second, .val (.long t2), .second, .val (.long lw), .second, .val (.ref so), .unset, .unset] [(.long lw)])
  refine Rch.go (fun _ q => XS.lconst X110.here hx rfl (hb hby at_176) q) ?_
  show Rch p ev below _ T110 (mkF m 177 #[.val (.int p1), .val (.int p2), .val (.int p3), .val (.long p4), .second, .val (.int p5), .val (.long p6), .second, .val (.int av), .val (.int bv), .val (.int (Int32.ofNat caN)), .val (.int (Int32.ofNat cbN)), .val (.int (Int32.ofNat nN)), .val (.int xv), .val (.long t1), .second, .val (.long qv), .second, .val (.long t2), .second, .val (.long lw), .second, .val (.ref so), .unset, .unset] [(.long (0 : Int64)), (.long lw)])
  rw [own_l0]
  show Rch p ev below _ T110 (mkF m 177 #[.val (.int p1), .val (.int p2), .val (.int p3), .val (.long p4), .second, .val (.int p5), .val (.long p6), .second, .val (.int av), .val (.int bv), .val (.int (Int32.ofNat caN)), .val (.int (Int32.ofNat cbN)), .val (.int (Int32.ofNat nN)), .val (.int xv), .val (.long t1), .second, .val (.long qv), .second, .val (.long t2), .second, .val (.long lw), .second, .val (.ref so), .unset, .unset] [(.long (own_L 0)), (.long lw)])
  refine Rch.go (fun _ q => XS.lcmp X110.here hx rfl (hb hby at_177) rfl q) ?_
  show Rch p ev below _ T110 (mkF m 178 #[.val (.int p1), .val (.int p2), .val (.int p3), .val (.long p4), .second, .val (.int p5), .val (.long p6), .second, .val (.int av), .val (.int bv), .val (.int (Int32.ofNat caN)), .val (.int (Int32.ofNat cbN)), .val (.int (Int32.ofNat nN)), .val (.int xv), .val (.long t1), .second, .val (.long qv), .second, .val (.long t2), .second, .val (.long lw), .second, .val (.ref so), .unset, .unset] [(.int (lcmpW lw (own_L 0)))])
  by_cases hc178 : 0 < lw.toInt
  · skip
    refine Rch.go (fun _ q => XS.ifYes X110.here hx rfl (pc0 := 178) (pc' := 187) rfl (hb hby at_178) rfl ((if0 _ _).trans (tlt ((own_lc_gt' (v := 0) (w := lw) (by omega) (by omega)).mpr hc178)).2.2.1) (by decide) (by decide) q) ?_
    show Rch p ev below _ T110 (mkF m 187 #[.val (.int p1), .val (.int p2), .val (.int p3), .val (.long p4), .second, .val (.int p5), .val (.long p6), .second, .val (.int av), .val (.int bv), .val (.int (Int32.ofNat caN)), .val (.int (Int32.ofNat cbN)), .val (.int (Int32.ofNat nN)), .val (.int xv), .val (.long t1), .second, .val (.long qv), .second, .val (.long t2), .second, .val (.long lw), .second, .val (.ref so), .unset, .unset] [])
    refine Rch.go (fun _ q => XS.lload X110.here hx rfl (hb hby at_187) rfl  q) ?_
    show Rch p ev below _ T110 (mkF m 189 #[.val (.int p1), .val (.int p2), .val (.int p3), .val (.long p4), .second, .val (.int p5), .val (.long p6), .second, .val (.int av), .val (.int bv), .val (.int (Int32.ofNat caN)), .val (.int (Int32.ofNat cbN)), .val (.int (Int32.ofNat nN)), .val (.int xv), .val (.long t1), .second, .val (.long qv), .second, .val (.long t2), .second, .val (.long lw), .second, .val (.ref so), .unset, .unset] [(.long lw)])
    refine Rch.go (fun _ q => XS.lload X110.here hx rfl (hb hby at_189) rfl  q) ?_
    show Rch p ev below _ T110 (mkF m 191 #[.val (.int p1), .val (.int p2), .val (.int p3), .val (.long p4), .second, .val (.int p5), .val (.long p6), .second, .val (.int av), .val (.int bv), .val (.int (Int32.ofNat caN)), .val (.int (Int32.ofNat cbN)), .val (.int (Int32.ofNat nN)), .val (.int xv), .val (.long t1), .second, .val (.long qv), .second, .val (.long t2), .second, .val (.long lw), .second, .val (.ref so), .unset, .unset] [(.long t2), (.long lw)])
    refine Rch.go (fun _ q => XS.lcmp X110.here hx rfl (hb hby at_191) rfl q) ?_
    show Rch p ev below _ T110 (mkF m 192 #[.val (.int p1), .val (.int p2), .val (.int p3), .val (.long p4), .second, .val (.int p5), .val (.long p6), .second, .val (.int av), .val (.int bv), .val (.int (Int32.ofNat caN)), .val (.int (Int32.ofNat cbN)), .val (.int (Int32.ofNat nN)), .val (.int xv), .val (.long t1), .second, .val (.long qv), .second, .val (.long t2), .second, .val (.long lw), .second, .val (.ref so), .unset, .unset] [(.int (lcmpW lw t2))])
    by_cases hc192 : xv.toInt * (nN : Int) < lw.toInt
    · skip
      refine Rch.go (fun _ q => XS.ifNo X110.here hx rfl (hb hby at_192) rfl ((if0 _ _).trans (tlt (((lw_gt lw t2).mpr (Int64.lt_iff_toInt_lt.mpr (by rw [t2a]; exact hc192))))).2.2.2) q) ?_
      show Rch p ev below _ T110 (mkF m 195 #[.val (.int p1), .val (.int p2), .val (.int p3), .val (.long p4), .second, .val (.int p5), .val (.long p6), .second, .val (.int av), .val (.int bv), .val (.int (Int32.ofNat caN)), .val (.int (Int32.ofNat cbN)), .val (.int (Int32.ofNat nN)), .val (.int xv), .val (.long t1), .second, .val (.long qv), .second, .val (.long t2), .second, .val (.long lw), .second, .val (.ref so), .unset, .unset] [])
      refine Rch.go (fun _ q => X110.ldc2J hx (own := "com/example/binflow/binflow/solve/SubsetSumsClearPinLaw") hown (mvT hZ (hw _ (List.mem_of_getElem? (i := 5) rfl))) rfl (hb hby at_195) q) ?_
      show Rch p ev below _ T110 (mkF m 198 #[.val (.int p1), .val (.int p2), .val (.int p3), .val (.long p4), .second, .val (.int p5), .val (.long p6), .second, .val (.int av), .val (.int bv), .val (.int (Int32.ofNat caN)), .val (.int (Int32.ofNat cbN)), .val (.int (Int32.ofNat nN)), .val (.int xv), .val (.long t1), .second, .val (.long qv), .second, .val (.long t2), .second, .val (.long lw), .second, .val (.ref so), .unset, .unset] [(.long (9223372036854775807 : Int64))])
      refine Rch.go (fun _ q => XS.lstore X110.here hx rfl (hb hby at_198) rfl (l' := #[.val (.int p1), .val (.int p2), .val (.int p3), .val (.long p4), .second, .val (.int p5), .val (.long p6), .second, .val (.int av), .val (.int bv), .val (.int (Int32.ofNat caN)), .val (.int (Int32.ofNat cbN)), .val (.int (Int32.ofNat nN)), .val (.int xv), .val (.long t1), .second, .val (.long qv), .second, .val (.long t2), .second, .val (.long lw), .second, .val (.ref so), .val (.long (9223372036854775807 : Int64)), .second]) rfl q) ?_
      show Rch p ev below _ T110 (mkF m 200 #[.val (.int p1), .val (.int p2), .val (.int p3), .val (.long p4), .second, .val (.int p5), .val (.long p6), .second, .val (.int av), .val (.int bv), .val (.int (Int32.ofNat caN)), .val (.int (Int32.ofNat cbN)), .val (.int (Int32.ofNat nN)), .val (.int xv), .val (.long t1), .second, .val (.long qv), .second, .val (.long t2), .second, .val (.long lw), .second, .val (.ref so), .val (.long (9223372036854775807 : Int64)), .second] [])
      refine Rch.go (fun _ q => XS.goto X110.here hx rfl (pc0 := 200) (pc' := 221) rfl (hb hby at_200) (by decide) (by decide) q) ?_
      show Rch p ev below _ T110 (mkF m 221 #[.val (.int p1), .val (.int p2), .val (.int p3), .val (.long p4), .second, .val (.int p5), .val (.long p6), .second, .val (.int av), .val (.int bv), .val (.int (Int32.ofNat caN)), .val (.int (Int32.ofNat cbN)), .val (.int (Int32.ofNat nN)), .val (.int xv), .val (.long t1), .second, .val (.long qv), .second, .val (.long t2), .second, .val (.long lw), .second, .val (.ref so), .val (.long (9223372036854775807 : Int64)), .second] [])
      refine Rch.go (fun _ q => XS.aload X110.here hx rfl (hb hby at_221) rfl rfl q) ?_
      show Rch p ev below _ T110 (mkF m 223 #[.val (.int p1), .val (.int p2), .val (.int p3), .val (.long p4), .second, .val (.int p5), .val (.long p6), .second, .val (.int av), .val (.int bv), .val (.int (Int32.ofNat caN)), .val (.int (Int32.ofNat cbN)), .val (.int (Int32.ofNat nN)), .val (.int xv), .val (.long t1), .second, .val (.long qv), .second, .val (.long t2), .second, .val (.long lw), .second, .val (.ref so), .val (.long (9223372036854775807 : Int64)), .second] [(.ref so)])
      refine Rch.go (fun _ q => XS.lload X110.here hx rfl (hb hby at_223) rfl  q) ?_
      show Rch p ev below _ T110 (mkF m 225 #[.val (.int p1), .val (.int p2), .val (.int p3), .val (.long p4), .second, .val (.int p5), .val (.long p6), .second, .val (.int av), .val (.int bv), .val (.int (Int32.ofNat caN)), .val (.int (Int32.ofNat cbN)), .val (.int (Int32.ofNat nN)), .val (.int xv), .val (.long t1), .second, .val (.long qv), .second, .val (.long t2), .second, .val (.long lw), .second, .val (.ref so), .val (.long (9223372036854775807 : Int64)), .second] [(.long lw), (.ref so)])
      obtain ⟨cq111, kq111, q111a, q111b, q111c⟩ := isOf hZ e110 (own_Sg_exa SG)
      obtain ⟨_, _, ⟨T111, L111, k111, n111⟩, -, X111, ⟨Lc111, hQ111, l111, y111, z111⟩, st111⟩ := X110.virtualBack hx (y := (⟨"com/example/binflow/binflow/solve/SubsetSums", "leastFrom", "(J)J"⟩ : MethodName)) (z := (⟨"com/example/binflow/binflow/solve/SubsetSums", "leastFrom", "(J)J"⟩ : MethodName)) hown (mvT hZ (hw _ (List.mem_of_getElem? (i := 53) rfl))) (mvT hZ (hw _ (List.mem_of_getElem? (i := 54) rfl))) (notFace_of_selects (args := #[]) (mvT hZ (hw _ (List.mem_of_getElem? (i := 56) rfl)))) (mvT hZ (hw _ (List.mem_of_getElem? (i := 56) rfl))) (mvT hZ (hw _ (List.mem_of_getElem? (i := 55) rfl))) (by decide) (backOf (W := 0) (rmlf l Z a0 hw [] so lw xv xv (0 + nN) (0 + nN) 1 (-1) ga1 T109.heap n0 (own_Sg_le SG) SG) hZ (hw _ (List.mem_of_getElem? (i := 57) rfl)) (hw _ (List.mem_of_getElem? (i := 9) rfl)) (by decide) (by decide)) q111a q111c (g := (mkF m 225 #[.val (.int p1), .val (.int p2), .val (.int p3), .val (.long p4), .second, .val (.int p5), .val (.long p6), .second, .val (.int av), .val (.int bv), .val (.int (Int32.ofNat caN)), .val (.int (Int32.ofNat cbN)), .val (.int (Int32.ofNat nN)), .val (.int xv), .val (.long t1), .second, .val (.long qv), .second, .val (.long t2), .second, .val (.long lw), .second, .val (.ref so), .val (.long (9223372036854775807 : Int64)), .second] [(.long lw), (.ref so)])) rfl (by rw [hml]; rfl) (Steps.refl _) (argsL := [(.long lw)]) (rest := []) (lenOf own_pd7 rfl) rfl (by show 2 * 0 + _ ≤ _; exact Nat.le_of_eq rfl) (hb hby at_225) (fun _ _ => ⟨rfl, e110, (by decide : 11 + 0 ≤ _), (by decide : 117 + 0 ≤ _)⟩)
      dsimp only [Pt.U, Pt.locs, Pt.cells, Pt.slots] at X111 l111 y111 z111 st111 hQ111
      subst l111 y111 z111
      obtain ⟨res2, ga2, rr2, rfl, Nc, SH, hG, hR⟩ := hQ111
      refine Rch.jump st111 ?_
      show Rch p ev below _ T111 (mkF m 228 #[.val (.int p1), .val (.int p2), .val (.int p3), .val (.long p4), .second, .val (.int p5), .val (.long p6), .second, .val (.int av), .val (.int bv), .val (.int (Int32.ofNat caN)), .val (.int (Int32.ofNat cbN)), .val (.int (Int32.ofNat nN)), .val (.int xv), .val (.long t1), .second, .val (.long qv), .second, .val (.long t2), .second, .val (.long lw), .second, .val (.ref so), .val (.long (9223372036854775807 : Int64)), .second] [(.long res2)])
      have N111 := Fr.app N110 Nc
      have fin := own_fin xv (0 + nN) (by omega) (by omega) hxm.1 lw res2 ga2 rr2 hG hR
      rw [Nat.zero_add] at fin
      refine Rch.go (fun _ q => XS.lload X111.here hx rfl (hb hby at_228) rfl  q) ?_
      show Rch p ev below _ T111 (mkF m 230 #[.val (.int p1), .val (.int p2), .val (.int p3), .val (.long p4), .second, .val (.int p5), .val (.long p6), .second, .val (.int av), .val (.int bv), .val (.int (Int32.ofNat caN)), .val (.int (Int32.ofNat cbN)), .val (.int (Int32.ofNat nN)), .val (.int xv), .val (.long t1), .second, .val (.long qv), .second, .val (.long t2), .second, .val (.long lw), .second, .val (.ref so), .val (.long (9223372036854775807 : Int64)), .second] [(.long (9223372036854775807 : Int64)), (.long res2)])
      refine Rch.go (fun _ q => XS.lcmp X111.here hx rfl (hb hby at_230) rfl q) ?_
      show Rch p ev below _ T111 (mkF m 231 #[.val (.int p1), .val (.int p2), .val (.int p3), .val (.long p4), .second, .val (.int p5), .val (.long p6), .second, .val (.int av), .val (.int bv), .val (.int (Int32.ofNat caN)), .val (.int (Int32.ofNat cbN)), .val (.int (Int32.ofNat nN)), .val (.int xv), .val (.long t1), .second, .val (.long qv), .second, .val (.long t2), .second, .val (.long lw), .second, .val (.ref so), .val (.long (9223372036854775807 : Int64)), .second] [(.int (lcmpW res2 (9223372036854775807 : Int64)))])
      refine Rch.go (fun _ q => XS.ifNo X111.here hx rfl (hb hby at_231) rfl ((if0 _ _).trans (teq ((lw_eq _ _).mpr (fin.2.1 hc178 hc192))).2) q) ?_
      show Rch p ev below _ T111 (mkF m 234 #[.val (.int p1), .val (.int p2), .val (.int p3), .val (.long p4), .second, .val (.int p5), .val (.long p6), .second, .val (.int av), .val (.int bv), .val (.int (Int32.ofNat caN)), .val (.int (Int32.ofNat cbN)), .val (.int (Int32.ofNat nN)), .val (.int xv), .val (.long t1), .second, .val (.long qv), .second, .val (.long t2), .second, .val (.long lw), .second, .val (.ref so), .val (.long (9223372036854775807 : Int64)), .second] [])
      refine Rch.go (fun _ q => XS.iconst X111.here hx rfl (hb hby at_234) q) ?_
      show Rch p ev below _ T111 (mkF m 235 #[.val (.int p1), .val (.int p2), .val (.int p3), .val (.long p4), .second, .val (.int p5), .val (.long p6), .second, .val (.int av), .val (.int bv), .val (.int (Int32.ofNat caN)), .val (.int (Int32.ofNat cbN)), .val (.int (Int32.ofNat nN)), .val (.int xv), .val (.long t1), .second, .val (.long qv), .second, .val (.long t2), .second, .val (.long lw), .second, .val (.ref so), .val (.long (9223372036854775807 : Int64)), .second] [(.int (1 : Int32))])
      refine Rch.go (fun _ q => XS.goto X111.here hx rfl (pc0 := 235) (pc' := 239) rfl (hb hby at_235) (by decide) (by decide) q) ?_
      show Rch p ev below _ T111 (mkF m 239 #[.val (.int p1), .val (.int p2), .val (.int p3), .val (.long p4), .second, .val (.int p5), .val (.long p6), .second, .val (.int av), .val (.int bv), .val (.int (Int32.ofNat caN)), .val (.int (Int32.ofNat cbN)), .val (.int (Int32.ofNat nN)), .val (.int xv), .val (.long t1), .second, .val (.long qv), .second, .val (.long t2), .second, .val (.long lw), .second, .val (.ref so), .val (.long (9223372036854775807 : Int64)), .second] [(.int (1 : Int32))])
      refine Rch.retZ X111 hx hlk Bd.returns (hb hby at_239) (by decide) (by decide) ?_
      unfold Qrm0
      exact ⟨rfl, N111⟩
    · skip
      refine Rch.go (fun _ q => XS.ifYes X110.here hx rfl (pc0 := 192) (pc' := 203) rfl (hb hby at_192) rfl ((if0 _ _).trans (flt ((mt (lw_gt lw t2).mp (fun q => hc192 (by rw [Int64.lt_iff_toInt_lt, t2a] at q; exact q))))).2.2.2) (by decide) (by decide) q) ?_
      show Rch p ev below _ T110 (mkF m 203 #[.val (.int p1), .val (.int p2), .val (.int p3), .val (.long p4), .second, .val (.int p5), .val (.long p6), .second, .val (.int av), .val (.int bv), .val (.int (Int32.ofNat caN)), .val (.int (Int32.ofNat cbN)), .val (.int (Int32.ofNat nN)), .val (.int xv), .val (.long t1), .second, .val (.long qv), .second, .val (.long t2), .second, .val (.long lw), .second, .val (.ref so), .unset, .unset] [])
      have nzx : xv.toInt64 ≠ 0 := fun q => by
        have k := c_i2l xv
        have k0 : (0 : Int64).toInt = 0 := rfl
        rw [q, k0] at k
        rw [← k, Int.zero_mul] at hc192
        omega
      refine Rch.go (fun _ q => XS.lload X110.here hx rfl (hb hby at_203) rfl  q) ?_
      show Rch p ev below _ T110 (mkF m 205 #[.val (.int p1), .val (.int p2), .val (.int p3), .val (.long p4), .second, .val (.int p5), .val (.long p6), .second, .val (.int av), .val (.int bv), .val (.int (Int32.ofNat caN)), .val (.int (Int32.ofNat cbN)), .val (.int (Int32.ofNat nN)), .val (.int xv), .val (.long t1), .second, .val (.long qv), .second, .val (.long t2), .second, .val (.long lw), .second, .val (.ref so), .unset, .unset] [(.long lw)])
      refine Rch.go (fun _ q => XS.iload X110.here hx rfl (hb hby at_205) rfl  q) ?_
      show Rch p ev below _ T110 (mkF m 207 #[.val (.int p1), .val (.int p2), .val (.int p3), .val (.long p4), .second, .val (.int p5), .val (.long p6), .second, .val (.int av), .val (.int bv), .val (.int (Int32.ofNat caN)), .val (.int (Int32.ofNat cbN)), .val (.int (Int32.ofNat nN)), .val (.int xv), .val (.long t1), .second, .val (.long qv), .second, .val (.long t2), .second, .val (.long lw), .second, .val (.ref so), .unset, .unset] [(.int xv), (.long lw)])
      refine Rch.go (fun _ q => XS.i2l X110.here hx rfl (hb hby at_207) rfl q) ?_
      show Rch p ev below _ T110 (mkF m 208 #[.val (.int p1), .val (.int p2), .val (.int p3), .val (.long p4), .second, .val (.int p5), .val (.long p6), .second, .val (.int av), .val (.int bv), .val (.int (Int32.ofNat caN)), .val (.int (Int32.ofNat cbN)), .val (.int (Int32.ofNat nN)), .val (.int xv), .val (.long t1), .second, .val (.long qv), .second, .val (.long t2), .second, .val (.long lw), .second, .val (.ref so), .unset, .unset] [(.long (xv.toInt64)), (.long lw)])
      refine Rch.go (fun _ q => XS.ladd X110.here hx rfl (hb hby at_208) rfl q) ?_
      show Rch p ev below _ T110 (mkF m 209 #[.val (.int p1), .val (.int p2), .val (.int p3), .val (.long p4), .second, .val (.int p5), .val (.long p6), .second, .val (.int av), .val (.int bv), .val (.int (Int32.ofNat caN)), .val (.int (Int32.ofNat cbN)), .val (.int (Int32.ofNat nN)), .val (.int xv), .val (.long t1), .second, .val (.long qv), .second, .val (.long t2), .second, .val (.long lw), .second, .val (.ref so), .unset, .unset] [(.long (lw + (xv.toInt64)))])
      refine Rch.go (fun _ q => XS.lconst X110.here hx rfl (hb hby at_209) q) ?_
      show Rch p ev below _ T110 (mkF m 210 #[.val (.int p1), .val (.int p2), .val (.int p3), .val (.long p4), .second, .val (.int p5), .val (.long p6), .second, .val (.int av), .val (.int bv), .val (.int (Int32.ofNat caN)), .val (.int (Int32.ofNat cbN)), .val (.int (Int32.ofNat nN)), .val (.int xv), .val (.long t1), .second, .val (.long qv), .second, .val (.long t2), .second, .val (.long lw), .second, .val (.ref so), .unset, .unset] [(.long (1 : Int64)), (.long (lw + (xv.toInt64)))])
      refine Rch.go (fun _ q => XS.lsub X110.here hx rfl (hb hby at_210) rfl q) ?_
      show Rch p ev below _ T110 (mkF m 211 #[.val (.int p1), .val (.int p2), .val (.int p3), .val (.long p4), .second, .val (.int p5), .val (.long p6), .second, .val (.int av), .val (.int bv), .val (.int (Int32.ofNat caN)), .val (.int (Int32.ofNat cbN)), .val (.int (Int32.ofNat nN)), .val (.int xv), .val (.long t1), .second, .val (.long qv), .second, .val (.long t2), .second, .val (.long lw), .second, .val (.ref so), .unset, .unset] [(.long ((lw + (xv.toInt64)) - (1 : Int64)))])
      refine Rch.go (fun _ q => XS.iload X110.here hx rfl (hb hby at_211) rfl  q) ?_
      show Rch p ev below _ T110 (mkF m 213 #[.val (.int p1), .val (.int p2), .val (.int p3), .val (.long p4), .second, .val (.int p5), .val (.long p6), .second, .val (.int av), .val (.int bv), .val (.int (Int32.ofNat caN)), .val (.int (Int32.ofNat cbN)), .val (.int (Int32.ofNat nN)), .val (.int xv), .val (.long t1), .second, .val (.long qv), .second, .val (.long t2), .second, .val (.long lw), .second, .val (.ref so), .unset, .unset] [(.int xv), (.long ((lw + (xv.toInt64)) - (1 : Int64)))])
      refine Rch.go (fun _ q => XS.i2l X110.here hx rfl (hb hby at_213) rfl q) ?_
      show Rch p ev below _ T110 (mkF m 214 #[.val (.int p1), .val (.int p2), .val (.int p3), .val (.long p4), .second, .val (.int p5), .val (.long p6), .second, .val (.int av), .val (.int bv), .val (.int (Int32.ofNat caN)), .val (.int (Int32.ofNat cbN)), .val (.int (Int32.ofNat nN)), .val (.int xv), .val (.long t1), .second, .val (.long qv), .second, .val (.long t2), .second, .val (.long lw), .second, .val (.ref so), .unset, .unset] [(.long (xv.toInt64)), (.long ((lw + (xv.toInt64)) - (1 : Int64)))])
      refine Rch.go (fun _ q => XS.ldiv X110.here hx rfl (hb hby at_214) rfl nzx q) ?_
      show Rch p ev below _ T110 (mkF m 215 #[.val (.int p1), .val (.int p2), .val (.int p3), .val (.long p4), .second, .val (.int p5), .val (.long p6), .second, .val (.int av), .val (.int bv), .val (.int (Int32.ofNat caN)), .val (.int (Int32.ofNat cbN)), .val (.int (Int32.ofNat nN)), .val (.int xv), .val (.long t1), .second, .val (.long qv), .second, .val (.long t2), .second, .val (.long lw), .second, .val (.ref so), .unset, .unset] [(.long (((lw + (xv.toInt64)) - (1 : Int64)) / (xv.toInt64)))])
      refine Rch.go (fun _ q => XS.iload X110.here hx rfl (hb hby at_215) rfl  q) ?_
      show Rch p ev below _ T110 (mkF m 217 #[.val (.int p1), .val (.int p2), .val (.int p3), .val (.long p4), .second, .val (.int p5), .val (.long p6), .second, .val (.int av), .val (.int bv), .val (.int (Int32.ofNat caN)), .val (.int (Int32.ofNat cbN)), .val (.int (Int32.ofNat nN)), .val (.int xv), .val (.long t1), .second, .val (.long qv), .second, .val (.long t2), .second, .val (.long lw), .second, .val (.ref so), .unset, .unset] [(.int xv), (.long (((lw + (xv.toInt64)) - (1 : Int64)) / (xv.toInt64)))])
      refine Rch.go (fun _ q => XS.i2l X110.here hx rfl (hb hby at_217) rfl q) ?_
      show Rch p ev below _ T110 (mkF m 218 #[.val (.int p1), .val (.int p2), .val (.int p3), .val (.long p4), .second, .val (.int p5), .val (.long p6), .second, .val (.int av), .val (.int bv), .val (.int (Int32.ofNat caN)), .val (.int (Int32.ofNat cbN)), .val (.int (Int32.ofNat nN)), .val (.int xv), .val (.long t1), .second, .val (.long qv), .second, .val (.long t2), .second, .val (.long lw), .second, .val (.ref so), .unset, .unset] [(.long (xv.toInt64)), (.long (((lw + (xv.toInt64)) - (1 : Int64)) / (xv.toInt64)))])
      refine Rch.go (fun _ q => XS.lmul X110.here hx rfl (hb hby at_218) rfl q) ?_
      show Rch p ev below _ T110 (mkF m 219 #[.val (.int p1), .val (.int p2), .val (.int p3), .val (.long p4), .second, .val (.int p5), .val (.long p6), .second, .val (.int av), .val (.int bv), .val (.int (Int32.ofNat caN)), .val (.int (Int32.ofNat cbN)), .val (.int (Int32.ofNat nN)), .val (.int xv), .val (.long t1), .second, .val (.long qv), .second, .val (.long t2), .second, .val (.long lw), .second, .val (.ref so), .unset, .unset] [(.long ((((lw + (xv.toInt64)) - (1 : Int64)) / (xv.toInt64)) * (xv.toInt64)))])
      refine Rch.go (fun _ q => XS.lstore X110.here hx rfl (hb hby at_219) rfl (l' := #[.val (.int p1), .val (.int p2), .val (.int p3), .val (.long p4), .second, .val (.int p5), .val (.long p6), .second, .val (.int av), .val (.int bv), .val (.int (Int32.ofNat caN)), .val (.int (Int32.ofNat cbN)), .val (.int (Int32.ofNat nN)), .val (.int xv), .val (.long t1), .second, .val (.long qv), .second, .val (.long t2), .second, .val (.long lw), .second, .val (.ref so), .val (.long ((((lw + (xv.toInt64)) - (1 : Int64)) / (xv.toInt64)) * (xv.toInt64))), .second]) rfl q) ?_
      show Rch p ev below _ T110 (mkF m 221 #[.val (.int p1), .val (.int p2), .val (.int p3), .val (.long p4), .second, .val (.int p5), .val (.long p6), .second, .val (.int av), .val (.int bv), .val (.int (Int32.ofNat caN)), .val (.int (Int32.ofNat cbN)), .val (.int (Int32.ofNat nN)), .val (.int xv), .val (.long t1), .second, .val (.long qv), .second, .val (.long t2), .second, .val (.long lw), .second, .val (.ref so), .val (.long ((((lw + (xv.toInt64)) - (1 : Int64)) / (xv.toInt64)) * (xv.toInt64))), .second] [])
      refine Rch.go (fun _ q => XS.aload X110.here hx rfl (hb hby at_221) rfl rfl q) ?_
      show Rch p ev below _ T110 (mkF m 223 #[.val (.int p1), .val (.int p2), .val (.int p3), .val (.long p4), .second, .val (.int p5), .val (.long p6), .second, .val (.int av), .val (.int bv), .val (.int (Int32.ofNat caN)), .val (.int (Int32.ofNat cbN)), .val (.int (Int32.ofNat nN)), .val (.int xv), .val (.long t1), .second, .val (.long qv), .second, .val (.long t2), .second, .val (.long lw), .second, .val (.ref so), .val (.long ((((lw + (xv.toInt64)) - (1 : Int64)) / (xv.toInt64)) * (xv.toInt64))), .second] [(.ref so)])
      refine Rch.go (fun _ q => XS.lload X110.here hx rfl (hb hby at_223) rfl  q) ?_
      show Rch p ev below _ T110 (mkF m 225 #[.val (.int p1), .val (.int p2), .val (.int p3), .val (.long p4), .second, .val (.int p5), .val (.long p6), .second, .val (.int av), .val (.int bv), .val (.int (Int32.ofNat caN)), .val (.int (Int32.ofNat cbN)), .val (.int (Int32.ofNat nN)), .val (.int xv), .val (.long t1), .second, .val (.long qv), .second, .val (.long t2), .second, .val (.long lw), .second, .val (.ref so), .val (.long ((((lw + (xv.toInt64)) - (1 : Int64)) / (xv.toInt64)) * (xv.toInt64))), .second] [(.long lw), (.ref so)])
      obtain ⟨cq112, kq112, q112a, q112b, q112c⟩ := isOf hZ e110 (own_Sg_exa SG)
      obtain ⟨_, _, ⟨T112, L112, k112, n112⟩, -, X112, ⟨Lc112, hQ112, l112, y112, z112⟩, st112⟩ := X110.virtualBack hx (y := (⟨"com/example/binflow/binflow/solve/SubsetSums", "leastFrom", "(J)J"⟩ : MethodName)) (z := (⟨"com/example/binflow/binflow/solve/SubsetSums", "leastFrom", "(J)J"⟩ : MethodName)) hown (mvT hZ (hw _ (List.mem_of_getElem? (i := 53) rfl))) (mvT hZ (hw _ (List.mem_of_getElem? (i := 54) rfl))) (notFace_of_selects (args := #[]) (mvT hZ (hw _ (List.mem_of_getElem? (i := 56) rfl)))) (mvT hZ (hw _ (List.mem_of_getElem? (i := 56) rfl))) (mvT hZ (hw _ (List.mem_of_getElem? (i := 55) rfl))) (by decide) (backOf (W := 0) (rmlf l Z a0 hw [] so lw xv xv (0 + nN) (0 + nN) 1 (-1) ga1 T109.heap n0 (own_Sg_le SG) SG) hZ (hw _ (List.mem_of_getElem? (i := 57) rfl)) (hw _ (List.mem_of_getElem? (i := 9) rfl)) (by decide) (by decide)) q112a q112c (g := (mkF m 225 #[.val (.int p1), .val (.int p2), .val (.int p3), .val (.long p4), .second, .val (.int p5), .val (.long p6), .second, .val (.int av), .val (.int bv), .val (.int (Int32.ofNat caN)), .val (.int (Int32.ofNat cbN)), .val (.int (Int32.ofNat nN)), .val (.int xv), .val (.long t1), .second, .val (.long qv), .second, .val (.long t2), .second, .val (.long lw), .second, .val (.ref so), .val (.long ((((lw + (xv.toInt64)) - (1 : Int64)) / (xv.toInt64)) * (xv.toInt64))), .second] [(.long lw), (.ref so)])) rfl (by rw [hml]; rfl) (Steps.refl _) (argsL := [(.long lw)]) (rest := []) (lenOf own_pd7 rfl) rfl (by show 2 * 0 + _ ≤ _; exact Nat.le_of_eq rfl) (hb hby at_225) (fun _ _ => ⟨rfl, e110, (by decide : 11 + 0 ≤ _), (by decide : 117 + 0 ≤ _)⟩)
      dsimp only [Pt.U, Pt.locs, Pt.cells, Pt.slots] at X112 l112 y112 z112 st112 hQ112
      subst l112 y112 z112
      obtain ⟨res2, ga2, rr2, rfl, Nc, SH, hG, hR⟩ := hQ112
      refine Rch.jump st112 ?_
      show Rch p ev below _ T112 (mkF m 228 #[.val (.int p1), .val (.int p2), .val (.int p3), .val (.long p4), .second, .val (.int p5), .val (.long p6), .second, .val (.int av), .val (.int bv), .val (.int (Int32.ofNat caN)), .val (.int (Int32.ofNat cbN)), .val (.int (Int32.ofNat nN)), .val (.int xv), .val (.long t1), .second, .val (.long qv), .second, .val (.long t2), .second, .val (.long lw), .second, .val (.ref so), .val (.long ((((lw + (xv.toInt64)) - (1 : Int64)) / (xv.toInt64)) * (xv.toInt64))), .second] [(.long res2)])
      have N112 := Fr.app N110 Nc
      have fin := own_fin xv (0 + nN) (by omega) (by omega) hxm.1 lw res2 ga2 rr2 hG hR
      rw [Nat.zero_add] at fin
      refine Rch.go (fun _ q => XS.lload X112.here hx rfl (hb hby at_228) rfl  q) ?_
      show Rch p ev below _ T112 (mkF m 230 #[.val (.int p1), .val (.int p2), .val (.int p3), .val (.long p4), .second, .val (.int p5), .val (.long p6), .second, .val (.int av), .val (.int bv), .val (.int (Int32.ofNat caN)), .val (.int (Int32.ofNat cbN)), .val (.int (Int32.ofNat nN)), .val (.int xv), .val (.long t1), .second, .val (.long qv), .second, .val (.long t2), .second, .val (.long lw), .second, .val (.ref so), .val (.long ((((lw + (xv.toInt64)) - (1 : Int64)) / (xv.toInt64)) * (xv.toInt64))), .second] [(.long ((((lw + (xv.toInt64)) - (1 : Int64)) / (xv.toInt64)) * (xv.toInt64))), (.long res2)])
      refine Rch.go (fun _ q => XS.lcmp X112.here hx rfl (hb hby at_230) rfl q) ?_
      show Rch p ev below _ T112 (mkF m 231 #[.val (.int p1), .val (.int p2), .val (.int p3), .val (.long p4), .second, .val (.int p5), .val (.long p6), .second, .val (.int av), .val (.int bv), .val (.int (Int32.ofNat caN)), .val (.int (Int32.ofNat cbN)), .val (.int (Int32.ofNat nN)), .val (.int xv), .val (.long t1), .second, .val (.long qv), .second, .val (.long t2), .second, .val (.long lw), .second, .val (.ref so), .val (.long ((((lw + (xv.toInt64)) - (1 : Int64)) / (xv.toInt64)) * (xv.toInt64))), .second] [(.int (lcmpW res2 ((((lw + (xv.toInt64)) - (1 : Int64)) / (xv.toInt64)) * (xv.toInt64))))])
      refine Rch.go (fun _ q => XS.ifNo X112.here hx rfl (hb hby at_231) rfl ((if0 _ _).trans (teq ((lw_eq _ _).mpr (fin.2.2 hc178 hc192))).2) q) ?_
      show Rch p ev below _ T112 (mkF m 234 #[.val (.int p1), .val (.int p2), .val (.int p3), .val (.long p4), .second, .val (.int p5), .val (.long p6), .second, .val (.int av), .val (.int bv), .val (.int (Int32.ofNat caN)), .val (.int (Int32.ofNat cbN)), .val (.int (Int32.ofNat nN)), .val (.int xv), .val (.long t1), .second, .val (.long qv), .second, .val (.long t2), .second, .val (.long lw), .second, .val (.ref so), .val (.long ((((lw + (xv.toInt64)) - (1 : Int64)) / (xv.toInt64)) * (xv.toInt64))), .second] [])
      refine Rch.go (fun _ q => XS.iconst X112.here hx rfl (hb hby at_234) q) ?_
      show Rch p ev below _ T112 (mkF m 235 #[.val (.int p1), .val (.int p2), .val (.int p3), .val (.long p4), .second, .val (.int p5), .val (.long p6), .second, .val (.int av), .val (.int bv), .val (.int (Int32.ofNat caN)), .val (.int (Int32.ofNat cbN)), .val (.int (Int32.ofNat nN)), .val (.int xv), .val (.long t1), .second, .val (.long qv), .second, .val (.long t2), .second, .val (.long lw), .second, .val (.ref so), .val (.long ((((lw + (xv.toInt64)) - (1 : Int64)) / (xv.toInt64)) * (xv.toInt64))), .second] [(.int (1 : Int32))])
      refine Rch.go (fun _ q => XS.goto X112.here hx rfl (pc0 := 235) (pc' := 239) rfl (hb hby at_235) (by decide) (by decide) q) ?_
      show Rch p ev below _ T112 (mkF m 239 #[.val (.int p1), .val (.int p2), .val (.int p3), .val (.long p4), .second, .val (.int p5), .val (.long p6), .second, .val (.int av), .val (.int bv), .val (.int (Int32.ofNat caN)), .val (.int (Int32.ofNat cbN)), .val (.int (Int32.ofNat nN)), .val (.int xv), .val (.long t1), .second, .val (.long qv), .second, .val (.long t2), .second, .val (.long lw), .second, .val (.ref so), .val (.long ((((lw + (xv.toInt64)) - (1 : Int64)) / (xv.toInt64)) * (xv.toInt64))), .second] [(.int (1 : Int32))])
      refine Rch.retZ X112 hx hlk Bd.returns (hb hby at_239) (by decide) (by decide) ?_
      unfold Qrm0
      exact ⟨rfl, N112⟩
  · skip
    refine Rch.go (fun _ q => XS.ifNo X110.here hx rfl (hb hby at_178) rfl ((if0 _ _).trans (flt ((mt (own_lc_gt' (v := 0) (w := lw) (by omega) (by omega)).mp hc178))).2.2.1) q) ?_
    show Rch p ev below _ T110 (mkF m 181 #[.val (.int p1), .val (.int p2), .val (.int p3), .val (.long p4), .second, .val (.int p5), .val (.long p6), .second, .val (.int av), .val (.int bv), .val (.int (Int32.ofNat caN)), .val (.int (Int32.ofNat cbN)), .val (.int (Int32.ofNat nN)), .val (.int xv), .val (.long t1), .second, .val (.long qv), .second, .val (.long t2), .second, .val (.long lw), .second, .val (.ref so), .unset, .unset] [])
    refine Rch.go (fun _ q => XS.lconst X110.here hx rfl (hb hby at_181) q) ?_
    show Rch p ev below _ T110 (mkF m 182 #[.val (.int p1), .val (.int p2), .val (.int p3), .val (.long p4), .second, .val (.int p5), .val (.long p6), .second, .val (.int av), .val (.int bv), .val (.int (Int32.ofNat caN)), .val (.int (Int32.ofNat cbN)), .val (.int (Int32.ofNat nN)), .val (.int xv), .val (.long t1), .second, .val (.long qv), .second, .val (.long t2), .second, .val (.long lw), .second, .val (.ref so), .unset, .unset] [(.long (0 : Int64))])
    refine Rch.go (fun _ q => XS.lstore X110.here hx rfl (hb hby at_182) rfl (l' := #[.val (.int p1), .val (.int p2), .val (.int p3), .val (.long p4), .second, .val (.int p5), .val (.long p6), .second, .val (.int av), .val (.int bv), .val (.int (Int32.ofNat caN)), .val (.int (Int32.ofNat cbN)), .val (.int (Int32.ofNat nN)), .val (.int xv), .val (.long t1), .second, .val (.long qv), .second, .val (.long t2), .second, .val (.long lw), .second, .val (.ref so), .val (.long (0 : Int64)), .second]) rfl q) ?_
    show Rch p ev below _ T110 (mkF m 184 #[.val (.int p1), .val (.int p2), .val (.int p3), .val (.long p4), .second, .val (.int p5), .val (.long p6), .second, .val (.int av), .val (.int bv), .val (.int (Int32.ofNat caN)), .val (.int (Int32.ofNat cbN)), .val (.int (Int32.ofNat nN)), .val (.int xv), .val (.long t1), .second, .val (.long qv), .second, .val (.long t2), .second, .val (.long lw), .second, .val (.ref so), .val (.long (0 : Int64)), .second] [])
    refine Rch.go (fun _ q => XS.goto X110.here hx rfl (pc0 := 184) (pc' := 221) rfl (hb hby at_184) (by decide) (by decide) q) ?_
    show Rch p ev below _ T110 (mkF m 221 #[.val (.int p1), .val (.int p2), .val (.int p3), .val (.long p4), .second, .val (.int p5), .val (.long p6), .second, .val (.int av), .val (.int bv), .val (.int (Int32.ofNat caN)), .val (.int (Int32.ofNat cbN)), .val (.int (Int32.ofNat nN)), .val (.int xv), .val (.long t1), .second, .val (.long qv), .second, .val (.long t2), .second, .val (.long lw), .second, .val (.ref so), .val (.long (0 : Int64)), .second] [])
    refine Rch.go (fun _ q => XS.aload X110.here hx rfl (hb hby at_221) rfl rfl q) ?_
    show Rch p ev below _ T110 (mkF m 223 #[.val (.int p1), .val (.int p2), .val (.int p3), .val (.long p4), .second, .val (.int p5), .val (.long p6), .second, .val (.int av), .val (.int bv), .val (.int (Int32.ofNat caN)), .val (.int (Int32.ofNat cbN)), .val (.int (Int32.ofNat nN)), .val (.int xv), .val (.long t1), .second, .val (.long qv), .second, .val (.long t2), .second, .val (.long lw), .second, .val (.ref so), .val (.long (0 : Int64)), .second] [(.ref so)])
    refine Rch.go (fun _ q => XS.lload X110.here hx rfl (hb hby at_223) rfl  q) ?_
    show Rch p ev below _ T110 (mkF m 225 #[.val (.int p1), .val (.int p2), .val (.int p3), .val (.long p4), .second, .val (.int p5), .val (.long p6), .second, .val (.int av), .val (.int bv), .val (.int (Int32.ofNat caN)), .val (.int (Int32.ofNat cbN)), .val (.int (Int32.ofNat nN)), .val (.int xv), .val (.long t1), .second, .val (.long qv), .second, .val (.long t2), .second, .val (.long lw), .second, .val (.ref so), .val (.long (0 : Int64)), .second] [(.long lw), (.ref so)])
    obtain ⟨cq113, kq113, q113a, q113b, q113c⟩ := isOf hZ e110 (own_Sg_exa SG)
    obtain ⟨_, _, ⟨T113, L113, k113, n113⟩, -, X113, ⟨Lc113, hQ113, l113, y113, z113⟩, st113⟩ := X110.virtualBack hx (y := (⟨"com/example/binflow/binflow/solve/SubsetSums", "leastFrom", "(J)J"⟩ : MethodName)) (z := (⟨"com/example/binflow/binflow/solve/SubsetSums", "leastFrom", "(J)J"⟩ : MethodName)) hown (mvT hZ (hw _ (List.mem_of_getElem? (i := 53) rfl))) (mvT hZ (hw _ (List.mem_of_getElem? (i := 54) rfl))) (notFace_of_selects (args := #[]) (mvT hZ (hw _ (List.mem_of_getElem? (i := 56) rfl)))) (mvT hZ (hw _ (List.mem_of_getElem? (i := 56) rfl))) (mvT hZ (hw _ (List.mem_of_getElem? (i := 55) rfl))) (by decide) (backOf (W := 0) (rmlf l Z a0 hw [] so lw xv xv (0 + nN) (0 + nN) 1 (-1) ga1 T109.heap n0 (own_Sg_le SG) SG) hZ (hw _ (List.mem_of_getElem? (i := 57) rfl)) (hw _ (List.mem_of_getElem? (i := 9) rfl)) (by decide) (by decide)) q113a q113c (g := (mkF m 225 #[.val (.int p1), .val (.int p2), .val (.int p3), .val (.long p4), .second, .val (.int p5), .val (.long p6), .second, .val (.int av), .val (.int bv), .val (.int (Int32.ofNat caN)), .val (.int (Int32.ofNat cbN)), .val (.int (Int32.ofNat nN)), .val (.int xv), .val (.long t1), .second, .val (.long qv), .second, .val (.long t2), .second, .val (.long lw), .second, .val (.ref so), .val (.long (0 : Int64)), .second] [(.long lw), (.ref so)])) rfl (by rw [hml]; rfl) (Steps.refl _) (argsL := [(.long lw)]) (rest := []) (lenOf own_pd7 rfl) rfl (by show 2 * 0 + _ ≤ _; exact Nat.le_of_eq rfl) (hb hby at_225) (fun _ _ => ⟨rfl, e110, (by decide : 11 + 0 ≤ _), (by decide : 117 + 0 ≤ _)⟩)
    dsimp only [Pt.U, Pt.locs, Pt.cells, Pt.slots] at X113 l113 y113 z113 st113 hQ113
    subst l113 y113 z113
    obtain ⟨res2, ga2, rr2, rfl, Nc, SH, hG, hR⟩ := hQ113
    refine Rch.jump st113 ?_
    show Rch p ev below _ T113 (mkF m 228 #[.val (.int p1), .val (.int p2), .val (.int p3), .val (.long p4), .second, .val (.int p5), .val (.long p6), .second, .val (.int av), .val (.int bv), .val (.int (Int32.ofNat caN)), .val (.int (Int32.ofNat cbN)), .val (.int (Int32.ofNat nN)), .val (.int xv), .val (.long t1), .second, .val (.long qv), .second, .val (.long t2), .second, .val (.long lw), .second, .val (.ref so), .val (.long (0 : Int64)), .second] [(.long res2)])
    have N113 := Fr.app N110 Nc
    have fin := own_fin xv (0 + nN) (by omega) (by omega) hxm.1 lw res2 ga2 rr2 hG hR
    rw [Nat.zero_add] at fin
    refine Rch.go (fun _ q => XS.lload X113.here hx rfl (hb hby at_228) rfl  q) ?_
    show Rch p ev below _ T113 (mkF m 230 #[.val (.int p1), .val (.int p2), .val (.int p3), .val (.long p4), .second, .val (.int p5), .val (.long p6), .second, .val (.int av), .val (.int bv), .val (.int (Int32.ofNat caN)), .val (.int (Int32.ofNat cbN)), .val (.int (Int32.ofNat nN)), .val (.int xv), .val (.long t1), .second, .val (.long qv), .second, .val (.long t2), .second, .val (.long lw), .second, .val (.ref so), .val (.long (0 : Int64)), .second] [(.long (0 : Int64)), (.long res2)])
    refine Rch.go (fun _ q => XS.lcmp X113.here hx rfl (hb hby at_230) rfl q) ?_
    show Rch p ev below _ T113 (mkF m 231 #[.val (.int p1), .val (.int p2), .val (.int p3), .val (.long p4), .second, .val (.int p5), .val (.long p6), .second, .val (.int av), .val (.int bv), .val (.int (Int32.ofNat caN)), .val (.int (Int32.ofNat cbN)), .val (.int (Int32.ofNat nN)), .val (.int xv), .val (.long t1), .second, .val (.long qv), .second, .val (.long t2), .second, .val (.long lw), .second, .val (.ref so), .val (.long (0 : Int64)), .second] [(.int (lcmpW res2 (0 : Int64)))])
    refine Rch.go (fun _ q => XS.ifNo X113.here hx rfl (hb hby at_231) rfl ((if0 _ _).trans (teq ((lw_eq _ _).mpr (fin.1 hc178))).2) q) ?_
    show Rch p ev below _ T113 (mkF m 234 #[.val (.int p1), .val (.int p2), .val (.int p3), .val (.long p4), .second, .val (.int p5), .val (.long p6), .second, .val (.int av), .val (.int bv), .val (.int (Int32.ofNat caN)), .val (.int (Int32.ofNat cbN)), .val (.int (Int32.ofNat nN)), .val (.int xv), .val (.long t1), .second, .val (.long qv), .second, .val (.long t2), .second, .val (.long lw), .second, .val (.ref so), .val (.long (0 : Int64)), .second] [])
    refine Rch.go (fun _ q => XS.iconst X113.here hx rfl (hb hby at_234) q) ?_
    show Rch p ev below _ T113 (mkF m 235 #[.val (.int p1), .val (.int p2), .val (.int p3), .val (.long p4), .second, .val (.int p5), .val (.long p6), .second, .val (.int av), .val (.int bv), .val (.int (Int32.ofNat caN)), .val (.int (Int32.ofNat cbN)), .val (.int (Int32.ofNat nN)), .val (.int xv), .val (.long t1), .second, .val (.long qv), .second, .val (.long t2), .second, .val (.long lw), .second, .val (.ref so), .val (.long (0 : Int64)), .second] [(.int (1 : Int32))])
    refine Rch.go (fun _ q => XS.goto X113.here hx rfl (pc0 := 235) (pc' := 239) rfl (hb hby at_235) (by decide) (by decide) q) ?_
    show Rch p ev below _ T113 (mkF m 239 #[.val (.int p1), .val (.int p2), .val (.int p3), .val (.long p4), .second, .val (.int p5), .val (.long p6), .second, .val (.int av), .val (.int bv), .val (.int (Int32.ofNat caN)), .val (.int (Int32.ofNat cbN)), .val (.int (Int32.ofNat nN)), .val (.int xv), .val (.long t1), .second, .val (.long qv), .second, .val (.long t2), .second, .val (.long lw), .second, .val (.ref so), .val (.long (0 : Int64)), .second] [(.int (1 : Int32))])
    refine Rch.retZ X113 hx hlk Bd.returns (hb hby at_239) (by decide) (by decide) ?_
    unfold Qrm0
    exact ⟨rfl, N113⟩
set_option maxRecDepth 65536 in
set_option maxHeartbeats 40000000 in
theorem comes_1 {Post : Tables → Env → Array Value → State → Outcome → State → Prop} (hpost : ∀ tb e args s v u, (limb_1_1.after args s (.returned v) u = true ∧ limb_1_2.after args s (.returned v) u = true ∧ True) → FrameEnd s (.returned v) u (Jvm.fieldLocs frame_1_writes args s ++ Jvm.arrayLocs frame_1_arrays args s ++ Jvm.staticLocs frame_1_statics s) 32 256 → Post tb e args s (.returned v) u) :
    ArmFor flags0 classFile x code maxLocals ret World_1 tables_1 room_1 Calls_1 rest_1 Pre_1 Post := by
  intro l hfl _ _ p e ha hc hk s m args below hf hA hF happ hP
  obtain ⟨hcalls, hrest, hpre⟩ := hP
  obtain ⟨-, -, -, hnamed, -, -, -, hat⟩ := (Spec.applies_iff hf).mp happ
  obtain ⟨hg, hn⟩ := and_e (Cond.before_iff.mp (show (Jvm.Cond.and given_1 narrow_1).before args s = true from hpre))
  obtain ⟨hcnt, hr0⟩ := and_e hg
  obtain ⟨w0, w1, w2, w3, w4, w5, rfl⟩ : ∃ w0 w1 w2 w3 w4 w5 : Value, args = #[w0, w1, w2, w3, w4, w5] := by
    have hs : args.size = 6 := by simpa [Cond.value, given_1] using hcnt
    obtain ⟨L⟩ := args
    match L, hs with
    | [w0, w1, w2, w3, w4, w5], _ => exact ⟨w0, w1, w2, w3, w4, w5, rfl⟩
  have hw := fun d (hd : d ∈ tables_1) => atoms_spec (ws := Jvm.Cond.code x code maxLocals ret :: tables_1) hat d (List.mem_cons_of_mem _ hd)
  obtain ⟨ha0, hr1⟩ := and_e hr0
  obtain ⟨i0, e0⟩ := is_v ha0
  obtain rfl : w0 = (.int i0) := Option.some.inj e0
  obtain ⟨ha1, hr2⟩ := and_e hr1
  obtain ⟨i1, e1⟩ := is_v ha1
  obtain rfl : w1 = (.int i1) := Option.some.inj e1
  obtain ⟨ha2, hr3⟩ := and_e hr2
  obtain ⟨i2, e2⟩ := is_v ha2
  obtain rfl : w2 = (.int i2) := Option.some.inj e2
  obtain ⟨ha3, hr4⟩ := and_e hr3
  obtain ⟨i3, e3⟩ := isL_v ha3
  obtain rfl : w3 = (.long i3) := Option.some.inj e3
  obtain ⟨ha4, hr5⟩ := and_e hr4
  obtain ⟨i4, e4⟩ := is_v ha4
  obtain rfl : w4 = (.int i4) := Option.some.inj e4
  obtain ⟨i5, e5⟩ := isL_v hr5
  obtain rfl : w5 = (.long i5) := Option.some.inj e5
  obtain ⟨n, o, h1, h2, h3, _, L, rfl, ⟨rfl, N⟩, hq⟩ := rm0 l s _ hw tables_1 i0 i1 i2 i3 i4 i5 s.heap s.heap.size (Nat.le_refl _) p e ha hc hk s m _ below hf ((Spec.applies_iff_loose hf).mp happ).1 ⟨rfl, State.Warmed39.refl s, rfl⟩ trivial
  refine ⟨n, _, h1, h2, h3, hpost _ _ _ _ _ _ ⟨Cond.after_iff.mpr rfl, Cond.after_iff.mpr (eq_i res_at (Term.int_eval (1)) rfl), trivial⟩ ⟨hq.1, hq.2.1, (hq.2.2.sift fun y hy => Or.inr (N y hy)).mono (by decide) (by decide)⟩⟩
theorem main_1_1 : Claimed_1_1 := comes_1 fun _ _ _ _ _ _ h hF => ⟨h.1, hF⟩
theorem main_1_2 : Claimed_1_2 := comes_1 fun _ _ _ _ _ _ h hF => ⟨h.2.1, hF⟩
end Jvm.Pilot.@@N@@
namespace Jvm.Pilot.@@N@@
open Jvm Jvm.ClassFile Sem Op Lib Jvm.Free Jvm.Stand Jvm.Pilot.@@N@@.Jvm.D
/-! MADE BY PROGRAM (witnessworld.py) out of the Statement's table words and the real class files: 14 classes; the members and pool entries that the words name. The judged class is class 1, her method 1. -/
namespace start1
open Jvm.ClassFile
def u (s : String) : CpInfo := .utf8 (stringToUtf16 s)
/-- a pool by its gaps: so many unusable entries, then the entry; so many at the end -/
def gap : Nat → List CpInfo → List CpInfo
  | 0, r => r
  | n + 1, r => .unusable :: gap n r
def poolList (es : List (Nat × CpInfo)) (last : Nat) : List CpInfo := es.foldr (fun e r => gap e.1 (e.2 :: r)) (gap last [])
def pool (es : List (Nat × CpInfo)) (last : Nat) : Array CpInfo := ⟨poolList es last⟩
def fileOf (pool : Array CpInfo) (this : Nat) (attrs : Array Attribute := #[]) (ms : Array MethodInfo := #[]) (fl : Nat := 33) (sup : Nat := 0) (ifs : Array Nat := #[]) (fds : Array FieldInfo := #[]) : ClassFile where
  minorVersion := 0
  majorVersion := 65
  constantPool := pool
  accessFlags := fl
  thisClass := this
  superClass := sup
  interfaces := ifs
  fields := fds
  methods := ms
  attributes := attrs
def plain (name : String) (sup : Option ClassId) : Class where
  name := name
  kind := .ordinary
  loader := none
  accessFlags := 33
  super := sup
  interfaces := #[]
  cf := none
  fields := #[]
  methods := #[]
  instanceTypes := #[]
  staticTypes := #[]
  resolved := #[]
  callSites := []
  init := .initialized
  statics := none
  mirror := none

def pool0 : Array CpInfo := pool [(5, u "<init>"), (0, u "()V"), (1, .class_ 10), (1, u "java/lang/Object")] 113

def k0c0 : Code := { maxStack := 0, maxLocals := 1, code := object_method_1_code, exceptionTable := #[], attributes := #[] }
def k0m0 : Method := { name := "<init>", desc := "()V", sig := { parameters := [], returnType := none }, accessFlags := 1, code := some k0c0 }
/-- java/lang/Object -/
def k0 : Class := { plain "java/lang/Object" none with
  accessFlags := 33
  interfaces := #[]
  cf := some (fileOf pool0 8 #[] #[{ accessFlags := 1, nameIndex := 5, descriptorIndex := 6, attributes := #[] }] 33 0 #[] #[])
  fields := #[]
  methods := #[k0m0]
  instanceTypes := #[]
  staticTypes := #[]
  resolved := Array.replicate 124 none
  statics := none }

def pool1 : Array CpInfo := pool [(2, .class_ 4), (1, u "java/lang/Object"), (0, u "<init>"), (0, u "()V"), (0, .integer 2147483647), (0, .methodref 9 10), (0, .class_ 11), (0, .nameAndType 12 13), (0, u "java/lang/Math"), (0, u "min"), (0, u "(II)I"), (2, .long 9223372036854775807), (1, .long 3), (1, .class_ 21), (0, u "com/example/binflow/binflow/solve/SubsetSums"), (0, .methodref 20 23), (0, .nameAndType 5 24), (0, u "(I)V"), (0, .methodref 20 26), (0, .nameAndType 27 28), (0, u "add"), (0, u "(II)V"), (0, .methodref 20 30), (0, .nameAndType 31 32), (0, u "leastFrom"), (0, u "(J)J"), (0, .methodref 20 34), (0, .nameAndType 35 6), (0, u "clear"), (0, .methodref 20 37), (0, .nameAndType 38 39), (0, u "runCount"), (0, u "()I"), (0, .methodref 20 41), (0, .nameAndType 42 43), (0, u "runSize"), (0, u "(I)I"), (0, .class_ 45), (0, u "com/example/binflow/binflow/solve/SubsetSumsClearPinLaw"), (2, u "law"), (0, u "(IIIJIJ)Z")] 3

def k1m0 : Method := { name := "<init>", desc := "()V", sig := { parameters := [], returnType := none }, accessFlags := 1, code := none }
def k1c1 : Code := { maxStack := 6, maxLocals := 25, code := code, exceptionTable := #[], attributes := #[] }
def k1m1 : Method := { name := "law", desc := "(IIIJIJ)Z", sig := { parameters := [.int, .int, .int, .long, .int, .long], returnType := some .boolean }, accessFlags := 9, code := some k1c1 }
/-- com/example/binflow/binflow/solve/SubsetSumsClearPinLaw -/
def k1 : Class := { plain "com/example/binflow/binflow/solve/SubsetSumsClearPinLaw" (some 0) with
  accessFlags := 49
  interfaces := #[]
  cf := some (fileOf pool1 44 #[] #[{ accessFlags := 1, nameIndex := 5, descriptorIndex := 6, attributes := #[] }, { accessFlags := 9, nameIndex := 48, descriptorIndex := 49, attributes := #[] }] 49 2 #[] #[])
  fields := #[]
  methods := #[k1m0, k1m1]
  instanceTypes := #[]
  staticTypes := #[]
  resolved := Array.replicate 53 none
  statics := none }

def pool2 : Array CpInfo := pool [(1, .class_ 2), (0, u "java/lang/Math"), (1, .class_ 6), (1, u "java/lang/Object"), (0, u "<init>"), (0, u "()V"), (89, .class_ 100), (1, u "java/lang/Math$RandomNumberGeneratorHolder"), (71, u "negativeZeroFloatBits"), (0, u "J"), (2, u "negativeZeroDoubleBits"), (21, u "max"), (2, u "min"), (43, u "$assertionsDisabled"), (0, u "Z"), (88, u "(II)I"), (2, u "twoToTheDoubleScaleDown"), (0, u "D"), (4, u "twoToTheDoubleScaleUp"), (9, u "E"), (3, u "PI"), (2, u "TAU"), (2, u "DEGREES_TO_RADIANS"), (0, u "RADIANS_TO_DEGREES")] 94

def k2m0 : Method := { name := "<init>", desc := "()V", sig := { parameters := [], returnType := none }, accessFlags := 2, code := none }
def k2c1 : Code := { maxStack := 2, maxLocals := 2, code := jdk_29_method_65_code, exceptionTable := #[], attributes := #[] }
def k2m1 : Method := { name := "max", desc := "(II)I", sig := { parameters := [.int, .int], returnType := some .int }, accessFlags := 9, code := some k2c1 }
def k2c2 : Code := { maxStack := 2, maxLocals := 2, code := jdk_29_method_69_code, exceptionTable := #[], attributes := #[] }
def k2m2 : Method := { name := "min", desc := "(II)I", sig := { parameters := [.int, .int], returnType := some .int }, accessFlags := 9, code := some k2c2 }
/-- java/lang/Math -/
def k2 : Class := { plain "java/lang/Math" (some 0) with
  accessFlags := 49
  interfaces := #[]
  cf := some (fileOf pool2 1 #[.nestMembers #[98]] #[{ accessFlags := 2, nameIndex := 7, descriptorIndex := 8, attributes := #[] }, { accessFlags := 9, nameIndex := 198, descriptorIndex := 335, attributes := #[] }, { accessFlags := 9, nameIndex := 201, descriptorIndex := 335, attributes := #[] }] 49 4 #[] #[{ accessFlags := 25, nameIndex := 354, descriptorIndex := 339, attributes := #[] }, { accessFlags := 25, nameIndex := 358, descriptorIndex := 339, attributes := #[] }, { accessFlags := 25, nameIndex := 361, descriptorIndex := 339, attributes := #[] }, { accessFlags := 26, nameIndex := 364, descriptorIndex := 339, attributes := #[] }, { accessFlags := 26, nameIndex := 365, descriptorIndex := 339, attributes := #[] }, { accessFlags := 26, nameIndex := 172, descriptorIndex := 173, attributes := #[] }, { accessFlags := 26, nameIndex := 176, descriptorIndex := 173, attributes := #[] }, { accessFlags := 8, nameIndex := 344, descriptorIndex := 339, attributes := #[] }, { accessFlags := 8, nameIndex := 338, descriptorIndex := 339, attributes := #[] }, { accessFlags := 4120, nameIndex := 245, descriptorIndex := 246, attributes := #[] }])
  fields := #[{ name := "E", type := .double, accessFlags := 25, slot := 0, constantValue := 0 }, { name := "PI", type := .double, accessFlags := 25, slot := 1, constantValue := 0 }, { name := "TAU", type := .double, accessFlags := 25, slot := 2, constantValue := 0 }, { name := "DEGREES_TO_RADIANS", type := .double, accessFlags := 26, slot := 3, constantValue := 0 }, { name := "RADIANS_TO_DEGREES", type := .double, accessFlags := 26, slot := 4, constantValue := 0 }, { name := "negativeZeroFloatBits", type := .long, accessFlags := 26, slot := 5, constantValue := 0 }, { name := "negativeZeroDoubleBits", type := .long, accessFlags := 26, slot := 6, constantValue := 0 }, { name := "twoToTheDoubleScaleUp", type := .double, accessFlags := 8, slot := 7, constantValue := 0 }, { name := "twoToTheDoubleScaleDown", type := .double, accessFlags := 8, slot := 8, constantValue := 0 }, { name := "$assertionsDisabled", type := .boolean, accessFlags := 4120, slot := 9, constantValue := 0 }]
  methods := #[k2m0, k2m1, k2m2]
  instanceTypes := #[]
  staticTypes := #[.double, .double, .double, .double, .double, .long, .long, .double, .double, .boolean]
  resolved := Array.replicate 460 none
  statics := none }

def pool3 : Array CpInfo := pool [(1, .methodref 2 3), (0, .class_ 4), (0, .nameAndType 5 6), (0, u "java/lang/Object"), (0, u "<init>"), (0, u "()V"), (0, .fieldref 8 9), (0, .class_ 10), (0, .nameAndType 11 12), (0, u "com/example/binflow/binflow/solve/SubsetSums"), (0, u "frontSums"), (0, u "[J"), (0, .fieldref 8 14), (0, .nameAndType 15 12), (0, u "backSums"), (0, .fieldref 8 17), (0, .nameAndType 18 19), (0, u "runSizes"), (0, u "[I"), (0, .fieldref 8 21), (0, .nameAndType 22 19), (0, u "runStarts"), (0, .fieldref 8 24), (0, .nameAndType 25 26), (0, u "runCount"), (0, u "I"), (0, .fieldref 8 28), (0, .nameAndType 29 26), (0, u "count"), (0, .fieldref 8 31), (0, .nameAndType 32 33), (0, u "sum"), (0, u "J"), (0, .fieldref 8 35), (0, .nameAndType 36 26), (0, u "frontCount"), (0, .fieldref 8 38), (0, .nameAndType 39 26), (0, u "frontRun"), (0, .fieldref 8 41), (0, .nameAndType 42 26), (0, u "backCount"), (0, .fieldref 8 44), (0, .nameAndType 45 26), (0, u "backRun"), (0, .methodref 47 48), (0, .class_ 49), (0, .nameAndType 50 51), (0, u "java/lang/Math"), (0, u "max"), (0, u "(II)I"), (0, .methodref 53 54), (0, .class_ 55), (0, .nameAndType 56 57), (0, u "java/util/Arrays"), (0, u "copyOf"), (0, u "([JI)[J"), (0, .methodref 8 59), (0, .nameAndType 60 61), (0, u "gap"), (0, u "(IJJ)Z"), (0, .fieldref 8 63), (0, .nameAndType 64 33), (0, u "gapAbove"), (0, .fieldref 8 66), (0, .nameAndType 67 33), (0, u "gapBelow"), (0, .fieldref 8 69), (0, .nameAndType 70 26), (0, u "leftOut"), (0, .fieldref 8 72), (0, .nameAndType 73 26), (0, u "leftOutSize"), (0, .methodref 8 75), (0, .nameAndType 76 77), (0, u "largest"), (0, u "(I)J"), (2, .long 9223372036854775808), (1, .long 9223372036854775807), (1, .long 2), (1, .methodref 8 87), (0, .nameAndType 88 89), (0, u "countedGap"), (0, u "(JJ)Z"), (0, .methodref 8 91), (0, .nameAndType 92 77), (0, u "smallest"), (0, .methodref 8 94), (0, .nameAndType 95 96), (0, u "following"), (0, u "(II)J"), (0, .methodref 8 98), (0, .nameAndType 99 77), (0, u "first"), (0, .methodref 8 101), (0, .nameAndType 102 77), (0, u "last"), (0, .methodref 8 104), (0, .nameAndType 105 106), (0, u "end"), (0, u "(I)I"), (0, u "NONE"), (2, u "(I)V"), (2, u "clear"), (0, u "add"), (0, u "(II)V"), (1, u "()I"), (0, u "runSize"), (1, u "leastFrom"), (0, u "(J)J")] 3

def k3c0 : Code := { maxStack := 2, maxLocals := 2, code := prog_23_method_1_code, exceptionTable := #[], attributes := #[] }
def k3m0 : Method := { name := "<init>", desc := "(I)V", sig := { parameters := [.int], returnType := none }, accessFlags := 0, code := some k3c0 }
def k3c1 : Code := { maxStack := 3, maxLocals := 1, code := prog_23_method_2_code, exceptionTable := #[], attributes := #[] }
def k3m1 : Method := { name := "clear", desc := "()V", sig := { parameters := [], returnType := none }, accessFlags := 0, code := some k3c1 }
def k3c2 : Code := { maxStack := 7, maxLocals := 4, code := prog_23_method_3_code, exceptionTable := #[], attributes := #[] }
def k3m2 : Method := { name := "add", desc := "(II)V", sig := { parameters := [.int, .int], returnType := none }, accessFlags := 0, code := some k3c2 }
def k3c3 : Code := { maxStack := 1, maxLocals := 1, code := prog_23_method_4_code, exceptionTable := #[], attributes := #[] }
def k3m3 : Method := { name := "runCount", desc := "()I", sig := { parameters := [], returnType := some .int }, accessFlags := 0, code := some k3c3 }
def k3c4 : Code := { maxStack := 2, maxLocals := 2, code := prog_23_method_5_code, exceptionTable := #[], attributes := #[] }
def k3m4 : Method := { name := "runSize", desc := "(I)I", sig := { parameters := [.int], returnType := some .int }, accessFlags := 0, code := some k3c4 }
def k3c5 : Code := { maxStack := 6, maxLocals := 3, code := prog_23_method_7_code, exceptionTable := #[], attributes := #[] }
def k3m5 : Method := { name := "leastFrom", desc := "(J)J", sig := { parameters := [.long], returnType := some .long }, accessFlags := 0, code := some k3c5 }
def k3c6 : Code := { maxStack := 5, maxLocals := 10, code := prog_23_method_9_code, exceptionTable := #[], attributes := #[] }
def k3m6 : Method := { name := "gap", desc := "(IJJ)Z", sig := { parameters := [.int, .long, .long], returnType := some .boolean }, accessFlags := 2, code := some k3c6 }
def k3c7 : Code := { maxStack := 5, maxLocals := 12, code := prog_23_method_10_code, exceptionTable := #[], attributes := #[] }
def k3m7 : Method := { name := "countedGap", desc := "(JJ)Z", sig := { parameters := [.long, .long], returnType := some .boolean }, accessFlags := 2, code := some k3c7 }
def k3c8 : Code := { maxStack := 4, maxLocals := 3, code := prog_23_method_11_code, exceptionTable := #[], attributes := #[] }
def k3m8 : Method := { name := "following", desc := "(II)J", sig := { parameters := [.int, .int], returnType := some .long }, accessFlags := 2, code := some k3c8 }
def k3c9 : Code := { maxStack := 4, maxLocals := 2, code := prog_23_method_12_code, exceptionTable := #[], attributes := #[] }
def k3m9 : Method := { name := "largest", desc := "(I)J", sig := { parameters := [.int], returnType := some .long }, accessFlags := 2, code := some k3c9 }
def k3c10 : Code := { maxStack := 4, maxLocals := 2, code := prog_23_method_13_code, exceptionTable := #[], attributes := #[] }
def k3m10 : Method := { name := "smallest", desc := "(I)J", sig := { parameters := [.int], returnType := some .long }, accessFlags := 2, code := some k3c10 }
def k3c11 : Code := { maxStack := 6, maxLocals := 2, code := prog_23_method_14_code, exceptionTable := #[], attributes := #[] }
def k3m11 : Method := { name := "first", desc := "(I)J", sig := { parameters := [.int], returnType := some .long }, accessFlags := 2, code := some k3c11 }
def k3c12 : Code := { maxStack := 6, maxLocals := 2, code := prog_23_method_15_code, exceptionTable := #[], attributes := #[] }
def k3m12 : Method := { name := "last", desc := "(I)J", sig := { parameters := [.int], returnType := some .long }, accessFlags := 2, code := some k3c12 }
def k3c13 : Code := { maxStack := 3, maxLocals := 2, code := prog_23_method_16_code, exceptionTable := #[], attributes := #[] }
def k3m13 : Method := { name := "end", desc := "(I)I", sig := { parameters := [.int], returnType := some .int }, accessFlags := 2, code := some k3c13 }
/-- com/example/binflow/binflow/solve/SubsetSums -/
def k3 : Class := { plain "com/example/binflow/binflow/solve/SubsetSums" (some 0) with
  accessFlags := 48
  interfaces := #[]
  cf := some (fileOf pool3 8 #[] #[{ accessFlags := 0, nameIndex := 5, descriptorIndex := 110, attributes := #[] }, { accessFlags := 0, nameIndex := 113, descriptorIndex := 6, attributes := #[] }, { accessFlags := 0, nameIndex := 114, descriptorIndex := 115, attributes := #[] }, { accessFlags := 0, nameIndex := 25, descriptorIndex := 117, attributes := #[] }, { accessFlags := 0, nameIndex := 118, descriptorIndex := 106, attributes := #[] }, { accessFlags := 0, nameIndex := 120, descriptorIndex := 121, attributes := #[] }, { accessFlags := 2, nameIndex := 60, descriptorIndex := 61, attributes := #[] }, { accessFlags := 2, nameIndex := 88, descriptorIndex := 89, attributes := #[] }, { accessFlags := 2, nameIndex := 95, descriptorIndex := 96, attributes := #[] }, { accessFlags := 2, nameIndex := 76, descriptorIndex := 77, attributes := #[] }, { accessFlags := 2, nameIndex := 92, descriptorIndex := 77, attributes := #[] }, { accessFlags := 2, nameIndex := 99, descriptorIndex := 77, attributes := #[] }, { accessFlags := 2, nameIndex := 102, descriptorIndex := 77, attributes := #[] }, { accessFlags := 2, nameIndex := 105, descriptorIndex := 106, attributes := #[] }] 48 2 #[] #[{ accessFlags := 24, nameIndex := 107, descriptorIndex := 26, attributes := #[] }, { accessFlags := 18, nameIndex := 18, descriptorIndex := 19, attributes := #[] }, { accessFlags := 18, nameIndex := 22, descriptorIndex := 19, attributes := #[] }, { accessFlags := 2, nameIndex := 25, descriptorIndex := 26, attributes := #[] }, { accessFlags := 2, nameIndex := 29, descriptorIndex := 26, attributes := #[] }, { accessFlags := 2, nameIndex := 32, descriptorIndex := 33, attributes := #[] }, { accessFlags := 2, nameIndex := 11, descriptorIndex := 12, attributes := #[] }, { accessFlags := 2, nameIndex := 36, descriptorIndex := 26, attributes := #[] }, { accessFlags := 2, nameIndex := 39, descriptorIndex := 26, attributes := #[] }, { accessFlags := 2, nameIndex := 15, descriptorIndex := 12, attributes := #[] }, { accessFlags := 2, nameIndex := 42, descriptorIndex := 26, attributes := #[] }, { accessFlags := 2, nameIndex := 45, descriptorIndex := 26, attributes := #[] }, { accessFlags := 2, nameIndex := 73, descriptorIndex := 26, attributes := #[] }, { accessFlags := 2, nameIndex := 70, descriptorIndex := 26, attributes := #[] }, { accessFlags := 2, nameIndex := 67, descriptorIndex := 33, attributes := #[] }, { accessFlags := 2, nameIndex := 64, descriptorIndex := 33, attributes := #[] }])
  fields := #[{ name := "NONE", type := .int, accessFlags := 24, slot := 0, constantValue := 0 }, { name := "runSizes", type := (.array .int), accessFlags := 18, slot := 0, constantValue := 0 }, { name := "runStarts", type := (.array .int), accessFlags := 18, slot := 1, constantValue := 0 }, { name := "runCount", type := .int, accessFlags := 2, slot := 2, constantValue := 0 }, { name := "count", type := .int, accessFlags := 2, slot := 3, constantValue := 0 }, { name := "sum", type := .long, accessFlags := 2, slot := 4, constantValue := 0 }, { name := "frontSums", type := (.array .long), accessFlags := 2, slot := 5, constantValue := 0 }, { name := "frontCount", type := .int, accessFlags := 2, slot := 6, constantValue := 0 }, { name := "frontRun", type := .int, accessFlags := 2, slot := 7, constantValue := 0 }, { name := "backSums", type := (.array .long), accessFlags := 2, slot := 8, constantValue := 0 }, { name := "backCount", type := .int, accessFlags := 2, slot := 9, constantValue := 0 }, { name := "backRun", type := .int, accessFlags := 2, slot := 10, constantValue := 0 }, { name := "leftOutSize", type := .int, accessFlags := 2, slot := 11, constantValue := 0 }, { name := "leftOut", type := .int, accessFlags := 2, slot := 12, constantValue := 0 }, { name := "gapBelow", type := .long, accessFlags := 2, slot := 13, constantValue := 0 }, { name := "gapAbove", type := .long, accessFlags := 2, slot := 14, constantValue := 0 }]
  methods := #[k3m0, k3m1, k3m2, k3m3, k3m4, k3m5, k3m6, k3m7, k3m8, k3m9, k3m10, k3m11, k3m12, k3m13]
  instanceTypes := #[(.array .int), (.array .int), .int, .int, .long, (.array .long), .int, .int, (.array .long), .int, .int, .int, .int, .long, .long]
  staticTypes := #[.int]
  resolved := Array.replicate 125 none
  statics := none }

def pool4 : Array CpInfo := pool [(2, .class_ 4), (1, u "java/lang/Object"), (0, u "<init>"), (0, u "()V"), (7, .class_ 16), (1, u "java/util/Arrays"), (57, .class_ 76), (1, u "java/util/Arrays$NaturalOrder"), (36, .class_ 115), (1, u "java/util/Arrays$LegacyMergeSort"), (1, u "Z"), (32, .methodref 151 152), (0, .class_ 153), (0, .nameAndType 154 155), (0, u "java/lang/System"), (0, u "arraycopy"), (0, u "(Ljava/lang/Object;ILjava/lang/Object;II)V"), (146, u "copyOf"), (1, .methodref 305 306), (0, .class_ 307), (0, .nameAndType 308 309), (0, u "java/lang/Math"), (0, u "min"), (0, u "(II)I"), (65, .class_ 376), (0, u "java/util/Arrays$ArrayList"), (68, u "$assertionsDisabled"), (269, u "MIN_ARRAY_SORT_GRAN"), (0, u "I"), (2, u "INSERTIONSORT_THRESHOLD"), (152, u "([JI)[J"), (102, .class_ 976), (0, u "java/util/Arrays$ArrayItr")] 52

def k4m0 : Method := { name := "<init>", desc := "()V", sig := { parameters := [], returnType := none }, accessFlags := 2, code := none }
def k4c1 : Code := { maxStack := 6, maxLocals := 3, code := jdk_65_method_124_code, exceptionTable := #[], attributes := #[] }
def k4m1 : Method := { name := "copyOf", desc := "([JI)[J", sig := { parameters := [(.array .long), .int], returnType := some (.array .long) }, accessFlags := 9, code := some k4c1 }
/-- java/util/Arrays -/
def k4 : Class := { plain "java/util/Arrays" (some 0) with
  accessFlags := 49
  interfaces := #[]
  cf := some (fileOf pool4 14 #[.nestMembers #[975, 375, 113, 74]] #[{ accessFlags := 2, nameIndex := 5, descriptorIndex := 6, attributes := #[] }, { accessFlags := 9, nameIndex := 302, descriptorIndex := 872, attributes := #[] }] 49 2 #[] #[{ accessFlags := 26, nameIndex := 715, descriptorIndex := 716, attributes := #[] }, { accessFlags := 26, nameIndex := 719, descriptorIndex := 716, attributes := #[] }, { accessFlags := 4120, nameIndex := 445, descriptorIndex := 117, attributes := #[] }])
  fields := #[{ name := "MIN_ARRAY_SORT_GRAN", type := .int, accessFlags := 26, slot := 0, constantValue := 0 }, { name := "INSERTIONSORT_THRESHOLD", type := .int, accessFlags := 26, slot := 1, constantValue := 0 }, { name := "$assertionsDisabled", type := .boolean, accessFlags := 4120, slot := 2, constantValue := 0 }]
  methods := #[k4m0, k4m1]
  instanceTypes := #[]
  staticTypes := #[.int, .int, .boolean]
  resolved := Array.replicate 1029 none
  statics := none }

def pool5 : Array CpInfo := pool [(2, .class_ 4), (1, u "java/lang/Object"), (0, u "<init>"), (0, u "()V"), (1, .class_ 10), (1, u "java/lang/System"), (0, u "allowSecurityManager"), (0, u "I"), (16, u "cons"), (0, u "Ljava/io/Console;"), (77, .class_ 110), (1, u "java/lang/System$CallersHolder"), (43, u "initialErrStream"), (0, u "Ljava/io/PrintStream;"), (19, u "security"), (0, u "Ljava/lang/SecurityManager;"), (31, .class_ 209), (0, u "java/lang/System$1"), (7, u "props"), (0, u "Ljava/util/Properties;"), (2, u "lineSeparator"), (0, u "Ljava/lang/String;"), (96, .class_ 321), (1, u "java/lang/System$LoggerFinder"), (5, .class_ 328), (0, u "java/lang/System$Logger"), (67, u "err"), (2, u "out"), (91, u "notSupportedJnuEncoding"), (15, u "in"), (17, u "initialIn"), (0, u "Ljava/io/InputStream;"), (35, u "bootLayer"), (0, u "Ljava/lang/ModuleLayer;"), (99, .class_ 664), (0, u "java/lang/System$2"), (9, u "NEVER"), (2, u "MAYBE"), (49, u "arraycopy"), (0, u "(Ljava/lang/Object;ILjava/lang/Object;II)V"), (72, .class_ 802), (0, u "java/lang/System$Logger$Level")] 31

def k5m0 : Method := { name := "<init>", desc := "()V", sig := { parameters := [], returnType := none }, accessFlags := 2, code := none }
def k5m1 : Method := { name := "arraycopy", desc := "(Ljava/lang/Object;ILjava/lang/Object;II)V", sig := { parameters := [(.object "java/lang/Object"), .int, (.object "java/lang/Object"), .int, .int], returnType := none }, accessFlags := 265, code := none }
/-- java/lang/System -/
def k5 : Class := { plain "java/lang/System" (some 0) with
  accessFlags := 49
  interfaces := #[]
  cf := some (fileOf pool5 8 #[.nestMembers #[319, 327, 801, 108, 663, 208]] #[{ accessFlags := 2, nameIndex := 5, descriptorIndex := 6, attributes := #[] }, { accessFlags := 265, nameIndex := 727, descriptorIndex := 728, attributes := #[] }] 49 2 #[] #[{ accessFlags := 25, nameIndex := 507, descriptorIndex := 526, attributes := #[] }, { accessFlags := 25, nameIndex := 399, descriptorIndex := 155, attributes := #[] }, { accessFlags := 25, nameIndex := 396, descriptorIndex := 155, attributes := #[] }, { accessFlags := 10, nameIndex := 525, descriptorIndex := 526, attributes := #[] }, { accessFlags := 26, nameIndex := 674, descriptorIndex := 12, attributes := #[] }, { accessFlags := 26, nameIndex := 677, descriptorIndex := 12, attributes := #[] }, { accessFlags := 10, nameIndex := 11, descriptorIndex := 12, attributes := #[] }, { accessFlags := 74, nameIndex := 175, descriptorIndex := 176, attributes := #[] }, { accessFlags := 10, nameIndex := 491, descriptorIndex := 222, attributes := #[] }, { accessFlags := 74, nameIndex := 29, descriptorIndex := 30, attributes := #[] }, { accessFlags := 74, nameIndex := 154, descriptorIndex := 155, attributes := #[] }, { accessFlags := 10, nameIndex := 217, descriptorIndex := 218, attributes := #[] }, { accessFlags := 10, nameIndex := 221, descriptorIndex := 222, attributes := #[] }, { accessFlags := 8, nameIndex := 562, descriptorIndex := 563, attributes := #[] }])
  fields := #[{ name := "in", type := (.object "java/io/InputStream"), accessFlags := 25, slot := 0, constantValue := 0 }, { name := "out", type := (.object "java/io/PrintStream"), accessFlags := 25, slot := 1, constantValue := 0 }, { name := "err", type := (.object "java/io/PrintStream"), accessFlags := 25, slot := 2, constantValue := 0 }, { name := "initialIn", type := (.object "java/io/InputStream"), accessFlags := 10, slot := 3, constantValue := 0 }, { name := "NEVER", type := .int, accessFlags := 26, slot := 4, constantValue := 0 }, { name := "MAYBE", type := .int, accessFlags := 26, slot := 5, constantValue := 0 }, { name := "allowSecurityManager", type := .int, accessFlags := 10, slot := 6, constantValue := 0 }, { name := "security", type := (.object "java/lang/SecurityManager"), accessFlags := 74, slot := 7, constantValue := 0 }, { name := "notSupportedJnuEncoding", type := (.object "java/lang/String"), accessFlags := 10, slot := 8, constantValue := 0 }, { name := "cons", type := (.object "java/io/Console"), accessFlags := 74, slot := 9, constantValue := 0 }, { name := "initialErrStream", type := (.object "java/io/PrintStream"), accessFlags := 74, slot := 10, constantValue := 0 }, { name := "props", type := (.object "java/util/Properties"), accessFlags := 10, slot := 11, constantValue := 0 }, { name := "lineSeparator", type := (.object "java/lang/String"), accessFlags := 10, slot := 12, constantValue := 0 }, { name := "bootLayer", type := (.object "java/lang/ModuleLayer"), accessFlags := 8, slot := 13, constantValue := 0 }]
  methods := #[k5m0, k5m1]
  instanceTypes := #[]
  staticTypes := #[(.object "java/io/InputStream"), (.object "java/io/PrintStream"), (.object "java/io/PrintStream"), (.object "java/io/InputStream"), .int, .int, .int, (.object "java/lang/SecurityManager"), (.object "java/lang/String"), (.object "java/io/Console"), (.object "java/io/PrintStream"), (.object "java/util/Properties"), (.object "java/lang/String"), (.object "java/lang/ModuleLayer")]
  resolved := Array.replicate 834 none
  statics := none }

def pool6 : Array CpInfo := pool [(1, u "java/lang/Cloneable"), (0, .class_ 1), (0, u "java/lang/Object"), (0, .class_ 3)] 3

/-- java/lang/Cloneable -/
def k6 : Class := { plain "java/lang/Cloneable" (some 0) with
  accessFlags := 1537
  interfaces := #[]
  cf := some (fileOf pool6 2 #[] #[] 1537 4 #[] #[])
  fields := #[]
  methods := #[]
  instanceTypes := #[]
  staticTypes := #[]
  resolved := Array.replicate 8 none
  statics := none }

def pool7 : Array CpInfo := pool [(1, u "java/io/Serializable"), (0, .class_ 1), (0, u "java/lang/Object"), (0, .class_ 3)] 3

/-- java/io/Serializable -/
def k7 : Class := { plain "java/io/Serializable" (some 0) with
  accessFlags := 1537
  interfaces := #[]
  cf := some (fileOf pool7 2 #[] #[] 1537 4 #[] #[])
  fields := #[]
  methods := #[]
  instanceTypes := #[]
  staticTypes := #[]
  resolved := Array.replicate 8 none
  statics := none }

/-- the primitive byte -/
def k8 : Class := { plain "byte" none with kind := .primitive 'B', accessFlags := 0x411 }
/-- [B -/
def k9 : Class := { plain "[B" (some 0) with kind := .array 8 .byte, interfaces := #[6, 7], accessFlags := 1041 }

/-- the primitive int -/
def k10 : Class := { plain "int" none with kind := .primitive 'I', accessFlags := 0x411 }
/-- [I -/
def k11 : Class := { plain "[I" (some 0) with kind := .array 10 .int, interfaces := #[6, 7], accessFlags := 1041 }

/-- the primitive long -/
def k12 : Class := { plain "long" none with kind := .primitive 'J', accessFlags := 0x411 }
/-- [J -/
def k13 : Class := { plain "[J" (some 0) with kind := .array 12 .long, interfaces := #[6, 7], accessFlags := 1041 }

def heap : Heap := #[]
def classes : Array Class := #[k0, k1, k2, k3, k4, k5, k6, k7, k8, k9, k10, k11, k12, k13]
def interned : List (Array UInt16 × Addr) := []
def slotsUsed : Nat := 0
def theMethod : MethodId := ⟨1, 1⟩
def args0 : Array Value := #[.int 3, .int 2, .int 7, .long 9, .int 4, .long 5]
def aboutOver (below : List Frame) : State where
  vm := { classes := classes, interned := interned.toArray }
  heap := heap
  slotsUsed := slotsUsed
  threads := #[{ frames := .invoking theMethod args0 :: below }]
def below0 : List Frame := [.native { method := ⟨0, 0⟩, args := #[] }]
def about1 : State := aboutOver below0
def p0 : Program := .bare "" "" ""
def e0 : Env := launch0.env 0 0 0
theorem w_frames : about1.frames = Frame.invoking theMethod args0 :: below0 := rfl
set_option maxRecDepth 65536 in
theorem w_args : argsFit about1.vm theMethod args0 = true := by decide +kernel
set_option maxRecDepth 65536 in
theorem w_heap : heapFits about1 = true := by decide +kernel
set_option maxRecDepth 65536 in
theorem w_runnable : about1.curStatus? = some .runnable := by decide +kernel
set_option maxRecDepth 65536 in
theorem w_alone : about1.alone = true := by decide +kernel
set_option maxRecDepth 65536 in
theorem w_named : about1.methodNamed? x = some theMethod := by decide +kernel
set_option maxRecDepth 65536 in
theorem w_hears : about1.hears theMethod below0 = true := by decide +kernel
set_option maxRecDepth 65536 in
theorem w_ripe : about1.ripe theMethod args0 below0 = true := by decide +kernel
theorem w_running : about1.status = .running := rfl
set_option maxRecDepth 65536 in
theorem w_room : about1.hasRoom e0.platform room_1 = true :=
  launch0.hasRoom_least _ room_1 (by decide +kernel) (by decide +kernel) (by decide +kernel) (by decide +kernel) (by decide +kernel) (by decide +kernel)
theorem allAtoms_all (ts : List Jvm.Cond) (a : Array Jvm.Value) (st : Jvm.State) : (allAtoms ts).before a st = ts.all (fun c => c.before a st) := by
  induction ts with
  | nil => rfl
  | cons c t ih =>
    show (Jvm.Cond.and c (allAtoms t)).before a st = _
    rw [Jvm.Cond.before_and, ih, List.all_cons]
def words1 : List Jvm.Cond := Jvm.Cond.code x code maxLocals ret :: tables_1
/-- a 'code' word, met by the world's own term for the bytes: nothing is compared byte by byte -/
theorem code_word {y : MethodName} {bytes : ByteArray} {mx : Nat} {rt : Option FieldType} {a : Array Value} {s : State} {m : MethodId} {meth : Method} {c : Code} (h1 : s.methodNamed? y = some m) (h2 : s.vm.method? m = some meth) (h3 : meth.code = some c) (h4 : c.code = bytes)
    (h5 : (c.maxLocals == mx && c.exceptionTable.isEmpty && decide (c.maxStack ≤ mostOperands) && decide (meth.sig.returnType = rt) && !meth.locks && decide (parseMethodDescriptor y.desc = some meth.sig)) = true) : (Jvm.Cond.code y bytes mx rt).before a s = true := by
  simp only [Bool.and_eq_true, beq_iff_eq, Bool.not_eq_true', decide_eq_true_eq] at h5
  obtain ⟨⟨⟨⟨⟨g1, g2⟩, g3⟩, g4⟩, g5⟩, g6⟩ := h5
  simp [Cond.before, Cond.holds, Cond.value, h1, h2, h3, h4, g1, g2, g3, g4, g5, g6]
def isCode : Jvm.Cond → Bool
  | .code _ _ _ _ => true
  | _ => false
theorem all_split {L : List Jvm.Cond} {P : Jvm.Cond → Bool} (h1 : L.all (fun c => isCode c || P c) = true) (h2 : ∀ c ∈ L.filter isCode, P c = true) : L.all P = true := by
  refine List.all_eq_true.mpr fun c hc => ?_
  have h := List.all_eq_true.mp h1 c hc
  rcases Bool.eq_false_or_eq_true (isCode c) with hi | hi
  · exact h2 c (List.mem_filter.mpr ⟨hc, hi⟩)
  · simpa [hi] using h
set_option maxRecDepth 65536 in
theorem w_c0 : (Jvm.Cond.code x code maxLocals ret).before args0 about1 = true := code_word (m := ⟨1, 1⟩) (meth := k1m1) (c := k1c1) (by decide +kernel) rfl rfl rfl (by decide +kernel)
set_option maxRecDepth 65536 in
theorem w_c1 : (Jvm.Cond.code ({ cls := "java/lang/Math", name := "min", desc := "(II)I" } : Jvm.MethodName) jdk_29_method_69_code (2 : Nat) (Option.some Jvm.ClassFile.FieldType.int)).before args0 about1 = true := code_word (m := ⟨2, 2⟩) (meth := k2m2) (c := k2c2) (by decide +kernel) rfl rfl rfl (by decide +kernel)
set_option maxRecDepth 65536 in
theorem w_c2 : (Jvm.Cond.code ({ cls := "com/example/binflow/binflow/solve/SubsetSums", name := "<init>", desc := "(I)V" } : Jvm.MethodName) prog_23_method_1_code (2 : Nat) (Option.none : Option Jvm.ClassFile.FieldType)).before args0 about1 = true := code_word (m := ⟨3, 0⟩) (meth := k3m0) (c := k3c0) (by decide +kernel) rfl rfl rfl (by decide +kernel)
set_option maxRecDepth 65536 in
theorem w_c3 : (Jvm.Cond.code ({ cls := "java/lang/Object", name := "<init>", desc := "()V" } : Jvm.MethodName) object_method_1_code (1 : Nat) (Option.none : Option Jvm.ClassFile.FieldType)).before args0 about1 = true := code_word (m := ⟨0, 0⟩) (meth := k0m0) (c := k0c0) (by decide +kernel) rfl rfl rfl (by decide +kernel)
set_option maxRecDepth 65536 in
theorem w_c4 : (Jvm.Cond.code ({ cls := "com/example/binflow/binflow/solve/SubsetSums", name := "add", desc := "(II)V" } : Jvm.MethodName) prog_23_method_3_code (4 : Nat) (Option.none : Option Jvm.ClassFile.FieldType)).before args0 about1 = true := code_word (m := ⟨3, 2⟩) (meth := k3m2) (c := k3c2) (by decide +kernel) rfl rfl rfl (by decide +kernel)
set_option maxRecDepth 65536 in
theorem w_c5 : (Jvm.Cond.code ({ cls := "java/lang/Math", name := "max", desc := "(II)I" } : Jvm.MethodName) jdk_29_method_65_code (2 : Nat) (Option.some Jvm.ClassFile.FieldType.int)).before args0 about1 = true := code_word (m := ⟨2, 1⟩) (meth := k2m1) (c := k2c1) (by decide +kernel) rfl rfl rfl (by decide +kernel)
set_option maxRecDepth 65536 in
theorem w_c6 : (Jvm.Cond.code ({ cls := "java/util/Arrays", name := "copyOf", desc := "([JI)[J" } : Jvm.MethodName) jdk_65_method_124_code (3 : Nat) (Option.some (Jvm.ClassFile.FieldType.array Jvm.ClassFile.FieldType.long))).before args0 about1 = true := code_word (m := ⟨4, 1⟩) (meth := k4m1) (c := k4c1) (by decide +kernel) rfl rfl rfl (by decide +kernel)
set_option maxRecDepth 65536 in
theorem w_c7 : (Jvm.Cond.code ({ cls := "com/example/binflow/binflow/solve/SubsetSums", name := "leastFrom", desc := "(J)J" } : Jvm.MethodName) prog_23_method_7_code (3 : Nat) (Option.some Jvm.ClassFile.FieldType.long)).before args0 about1 = true := code_word (m := ⟨3, 5⟩) (meth := k3m5) (c := k3c5) (by decide +kernel) rfl rfl rfl (by decide +kernel)
set_option maxRecDepth 65536 in
theorem w_c8 : (Jvm.Cond.code ({ cls := "com/example/binflow/binflow/solve/SubsetSums", name := "gap", desc := "(IJJ)Z" } : Jvm.MethodName) prog_23_method_9_code (10 : Nat) (Option.some Jvm.ClassFile.FieldType.boolean)).before args0 about1 = true := code_word (m := ⟨3, 6⟩) (meth := k3m6) (c := k3c6) (by decide +kernel) rfl rfl rfl (by decide +kernel)
set_option maxRecDepth 65536 in
theorem w_c9 : (Jvm.Cond.code ({ cls := "com/example/binflow/binflow/solve/SubsetSums", name := "largest", desc := "(I)J" } : Jvm.MethodName) prog_23_method_12_code (2 : Nat) (Option.some Jvm.ClassFile.FieldType.long)).before args0 about1 = true := code_word (m := ⟨3, 9⟩) (meth := k3m9) (c := k3c9) (by decide +kernel) rfl rfl rfl (by decide +kernel)
set_option maxRecDepth 65536 in
theorem w_c10 : (Jvm.Cond.code ({ cls := "com/example/binflow/binflow/solve/SubsetSums", name := "first", desc := "(I)J" } : Jvm.MethodName) prog_23_method_14_code (2 : Nat) (Option.some Jvm.ClassFile.FieldType.long)).before args0 about1 = true := code_word (m := ⟨3, 11⟩) (meth := k3m11) (c := k3c11) (by decide +kernel) rfl rfl rfl (by decide +kernel)
set_option maxRecDepth 65536 in
theorem w_c11 : (Jvm.Cond.code ({ cls := "com/example/binflow/binflow/solve/SubsetSums", name := "last", desc := "(I)J" } : Jvm.MethodName) prog_23_method_15_code (2 : Nat) (Option.some Jvm.ClassFile.FieldType.long)).before args0 about1 = true := code_word (m := ⟨3, 12⟩) (meth := k3m12) (c := k3c12) (by decide +kernel) rfl rfl rfl (by decide +kernel)
set_option maxRecDepth 65536 in
theorem w_c12 : (Jvm.Cond.code ({ cls := "com/example/binflow/binflow/solve/SubsetSums", name := "clear", desc := "()V" } : Jvm.MethodName) prog_23_method_2_code (1 : Nat) (Option.none : Option Jvm.ClassFile.FieldType)).before args0 about1 = true := code_word (m := ⟨3, 1⟩) (meth := k3m1) (c := k3c1) (by decide +kernel) rfl rfl rfl (by decide +kernel)
set_option maxRecDepth 65536 in
theorem w_c13 : (Jvm.Cond.code ({ cls := "com/example/binflow/binflow/solve/SubsetSums", name := "runCount", desc := "()I" } : Jvm.MethodName) prog_23_method_4_code (1 : Nat) (Option.some Jvm.ClassFile.FieldType.int)).before args0 about1 = true := code_word (m := ⟨3, 3⟩) (meth := k3m3) (c := k3c3) (by decide +kernel) rfl rfl rfl (by decide +kernel)
set_option maxRecDepth 65536 in
theorem w_c14 : (Jvm.Cond.code ({ cls := "com/example/binflow/binflow/solve/SubsetSums", name := "runSize", desc := "(I)I" } : Jvm.MethodName) prog_23_method_5_code (2 : Nat) (Option.some Jvm.ClassFile.FieldType.int)).before args0 about1 = true := code_word (m := ⟨3, 4⟩) (meth := k3m4) (c := k3c4) (by decide +kernel) rfl rfl rfl (by decide +kernel)
set_option maxRecDepth 65536 in
theorem w_c15 : (Jvm.Cond.code ({ cls := "com/example/binflow/binflow/solve/SubsetSums", name := "countedGap", desc := "(JJ)Z" } : Jvm.MethodName) prog_23_method_10_code (12 : Nat) (Option.some Jvm.ClassFile.FieldType.boolean)).before args0 about1 = true := code_word (m := ⟨3, 7⟩) (meth := k3m7) (c := k3c7) (by decide +kernel) rfl rfl rfl (by decide +kernel)
set_option maxRecDepth 65536 in
theorem w_c16 : (Jvm.Cond.code ({ cls := "com/example/binflow/binflow/solve/SubsetSums", name := "smallest", desc := "(I)J" } : Jvm.MethodName) prog_23_method_13_code (2 : Nat) (Option.some Jvm.ClassFile.FieldType.long)).before args0 about1 = true := code_word (m := ⟨3, 10⟩) (meth := k3m10) (c := k3c10) (by decide +kernel) rfl rfl rfl (by decide +kernel)
set_option maxRecDepth 65536 in
theorem w_c17 : (Jvm.Cond.code ({ cls := "com/example/binflow/binflow/solve/SubsetSums", name := "following", desc := "(II)J" } : Jvm.MethodName) prog_23_method_11_code (3 : Nat) (Option.some Jvm.ClassFile.FieldType.long)).before args0 about1 = true := code_word (m := ⟨3, 8⟩) (meth := k3m8) (c := k3c8) (by decide +kernel) rfl rfl rfl (by decide +kernel)
set_option maxRecDepth 65536 in
theorem w_c18 : (Jvm.Cond.code ({ cls := "com/example/binflow/binflow/solve/SubsetSums", name := "end", desc := "(I)I" } : Jvm.MethodName) prog_23_method_16_code (2 : Nat) (Option.some Jvm.ClassFile.FieldType.int)).before args0 about1 = true := code_word (m := ⟨3, 13⟩) (meth := k3m13) (c := k3c13) (by decide +kernel) rfl rfl rfl (by decide +kernel)
def codes1 : List Jvm.Cond := [Jvm.Cond.code x code maxLocals ret, Jvm.Cond.code ({ cls := "java/lang/Math", name := "min", desc := "(II)I" } : Jvm.MethodName) jdk_29_method_69_code (2 : Nat) (Option.some Jvm.ClassFile.FieldType.int), Jvm.Cond.code ({ cls := "com/example/binflow/binflow/solve/SubsetSums", name := "<init>", desc := "(I)V" } : Jvm.MethodName) prog_23_method_1_code (2 : Nat) (Option.none : Option Jvm.ClassFile.FieldType), Jvm.Cond.code ({ cls := "java/lang/Object", name := "<init>", desc := "()V" } : Jvm.MethodName) object_method_1_code (1 : Nat) (Option.none : Option Jvm.ClassFile.FieldType), Jvm.Cond.code ({ cls := "com/example/binflow/binflow/solve/SubsetSums", name := "add", desc := "(II)V" } : Jvm.MethodName) prog_23_method_3_code (4 : Nat) (Option.none : Option Jvm.ClassFile.FieldType), Jvm.Cond.code ({ cls := "java/lang/Math", name := "max", desc := "(II)I" } : Jvm.MethodName) jdk_29_method_65_code (2 : Nat) (Option.some Jvm.ClassFile.FieldType.int), Jvm.Cond.code ({ cls := "java/util/Arrays", name := "copyOf", desc := "([JI)[J" } : Jvm.MethodName) jdk_65_method_124_code (3 : Nat) (Option.some (Jvm.ClassFile.FieldType.array Jvm.ClassFile.FieldType.long)), Jvm.Cond.code ({ cls := "com/example/binflow/binflow/solve/SubsetSums", name := "leastFrom", desc := "(J)J" } : Jvm.MethodName) prog_23_method_7_code (3 : Nat) (Option.some Jvm.ClassFile.FieldType.long), Jvm.Cond.code ({ cls := "com/example/binflow/binflow/solve/SubsetSums", name := "gap", desc := "(IJJ)Z" } : Jvm.MethodName) prog_23_method_9_code (10 : Nat) (Option.some Jvm.ClassFile.FieldType.boolean), Jvm.Cond.code ({ cls := "com/example/binflow/binflow/solve/SubsetSums", name := "largest", desc := "(I)J" } : Jvm.MethodName) prog_23_method_12_code (2 : Nat) (Option.some Jvm.ClassFile.FieldType.long), Jvm.Cond.code ({ cls := "com/example/binflow/binflow/solve/SubsetSums", name := "first", desc := "(I)J" } : Jvm.MethodName) prog_23_method_14_code (2 : Nat) (Option.some Jvm.ClassFile.FieldType.long), Jvm.Cond.code ({ cls := "com/example/binflow/binflow/solve/SubsetSums", name := "last", desc := "(I)J" } : Jvm.MethodName) prog_23_method_15_code (2 : Nat) (Option.some Jvm.ClassFile.FieldType.long), Jvm.Cond.code ({ cls := "com/example/binflow/binflow/solve/SubsetSums", name := "clear", desc := "()V" } : Jvm.MethodName) prog_23_method_2_code (1 : Nat) (Option.none : Option Jvm.ClassFile.FieldType), Jvm.Cond.code ({ cls := "com/example/binflow/binflow/solve/SubsetSums", name := "runCount", desc := "()I" } : Jvm.MethodName) prog_23_method_4_code (1 : Nat) (Option.some Jvm.ClassFile.FieldType.int), Jvm.Cond.code ({ cls := "com/example/binflow/binflow/solve/SubsetSums", name := "runSize", desc := "(I)I" } : Jvm.MethodName) prog_23_method_5_code (2 : Nat) (Option.some Jvm.ClassFile.FieldType.int), Jvm.Cond.code ({ cls := "com/example/binflow/binflow/solve/SubsetSums", name := "countedGap", desc := "(JJ)Z" } : Jvm.MethodName) prog_23_method_10_code (12 : Nat) (Option.some Jvm.ClassFile.FieldType.boolean), Jvm.Cond.code ({ cls := "com/example/binflow/binflow/solve/SubsetSums", name := "smallest", desc := "(I)J" } : Jvm.MethodName) prog_23_method_13_code (2 : Nat) (Option.some Jvm.ClassFile.FieldType.long), Jvm.Cond.code ({ cls := "com/example/binflow/binflow/solve/SubsetSums", name := "following", desc := "(II)J" } : Jvm.MethodName) prog_23_method_11_code (3 : Nat) (Option.some Jvm.ClassFile.FieldType.long), Jvm.Cond.code ({ cls := "com/example/binflow/binflow/solve/SubsetSums", name := "end", desc := "(I)I" } : Jvm.MethodName) prog_23_method_16_code (2 : Nat) (Option.some Jvm.ClassFile.FieldType.int)]
set_option maxRecDepth 65536 in
theorem codes_eq : words1.filter isCode = codes1 := rfl
theorem w_codes : ∀ c ∈ words1.filter isCode, c.before args0 about1 = true := by
  rw [codes_eq]
  intro c hc
  simp only [codes1, List.mem_cons, List.not_mem_nil, or_false] at hc
  rcases hc with rfl | rfl | rfl | rfl | rfl | rfl | rfl | rfl | rfl | rfl | rfl | rfl | rfl | rfl | rfl | rfl | rfl | rfl | rfl
  · exact w_c0
  · exact w_c1
  · exact w_c2
  · exact w_c3
  · exact w_c4
  · exact w_c5
  · exact w_c6
  · exact w_c7
  · exact w_c8
  · exact w_c9
  · exact w_c10
  · exact w_c11
  · exact w_c12
  · exact w_c13
  · exact w_c14
  · exact w_c15
  · exact w_c16
  · exact w_c17
  · exact w_c18
set_option maxRecDepth 65536 in
theorem w_t1 : (words1.take 24).all (fun c => isCode c || c.before args0 about1) = true := by decide +kernel
set_option maxRecDepth 65536 in
theorem w_t2 : ((words1.drop 24).take 24).all (fun c => isCode c || c.before args0 about1) = true := by decide +kernel
set_option maxRecDepth 65536 in
theorem w_t3 : (((words1.drop 24).drop 24).take 24).all (fun c => isCode c || c.before args0 about1) = true := by decide +kernel
set_option maxRecDepth 65536 in
theorem w_t4 : ((((words1.drop 24).drop 24).drop 24).take 24).all (fun c => isCode c || c.before args0 about1) = true := by decide +kernel
set_option maxRecDepth 65536 in
theorem w_t5 : (((((words1.drop 24).drop 24).drop 24).drop 24).take 24).all (fun c => isCode c || c.before args0 about1) = true := by decide +kernel
set_option maxRecDepth 65536 in
theorem w_t6 : (((((words1.drop 24).drop 24).drop 24).drop 24).drop 24).all (fun c => isCode c || c.before args0 about1) = true := by decide +kernel
theorem w_tables : (allAtoms (Jvm.Cond.code x code maxLocals ret :: tables_1)).before args0 about1 = true := by
  rw [allAtoms_all]
  show words1.all (fun c => c.before args0 about1) = true
  refine all_split ?_ w_codes
  rw [← List.take_append_drop 24 words1, List.all_append, w_t1, ← List.take_append_drop 24 (words1.drop 24), List.all_append, w_t2, ← List.take_append_drop 24 ((words1.drop 24).drop 24), List.all_append, w_t3, ← List.take_append_drop 24 (((words1.drop 24).drop 24).drop 24), List.all_append, w_t4, ← List.take_append_drop 24 ((((words1.drop 24).drop 24).drop 24).drop 24), List.all_append, w_t5, w_t6]
  rfl
set_option maxRecDepth 65536 in
theorem w_case : (Jvm.Cond.and given_1 narrow_1).before args0 about1 = true := by decide +kernel
theorem w_applies : (headSpec (Jvm.Cond.code x code maxLocals ret :: tables_1) room_1).applies x e0.platform about1 = true :=
  (Spec.applies_iff w_frames).mpr ⟨w_running, w_runnable, w_alone, w_named, w_hears, w_ripe, w_room, w_tables⟩
theorem atStart : AtStart classFile x code maxLocals ret World_1 tables_1 room_1 Calls_1 rest_1 Pre_1 launch0 p0 e0 about1 theMethod args0 below0 :=
  ⟨lists_1, trivial, launch0.admits_env _ _ _, launch0.least_env, fairChoices_fair.cas, fairChoices_fair.clock, w_frames, w_args, w_heap, w_applies, trivial, trivial, w_case⟩
end start1
theorem witness_1 : WitnessClaimed_1 := ⟨start1.p0, start1.e0, start1.about1, start1.theMethod, start1.args0, start1.below0, start1.atStart⟩
end Jvm.Pilot.@@N@@
