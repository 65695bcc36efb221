import JvmDerived
import JvmDerived.Pilot.@@N@@Statement
import JvmDerived.Pilot.@@N@@Code
set_option linter.unusedVariables false
set_option linter.unusedSimpArgs false
namespace Jvm.RoadKit
open Sem ClassFile Op Lib Jvm.Stand Jvm.Free Jvm.LawKit
section Own
variable {p : Program} {l : Launch} {e : Env} {R : Room} {s : State} {m : MethodId} {args : Array Value} {below : List Frame} {meth : Method} {c : Code} {T : State} {locs : List Loc} {cells slots : Nat} {Z : State} {a0 : Array Value} {h h' : Heap}
theorem retI (X : Stand p l e R s m args below meth c T locs cells slots) (hx : p.tables.exec = Jvm.exec) {pc : Nat} {Ls : Array Slot} {z : Int32} {rest : List Value} (hret : meth.sig.returnType = some .int) (hd : decode c.code pc = .ok (.ireturn, 1)) {fs : List Frame}
    (hl : ∀ (f : JFrame) (acts : List Action), f.method = m → f.locked = none → f.entered = [] → (doReturn e (T.setTop f) acts (some (.int z))).1 = T.setFrames fs) : Steps p.tables e below (T.setTop (mkF m pc Ls (.int z :: rest))) (T.setFrames fs) := by
  have hm' : T.vm.method? m = some meth := X.method'
  have hn : narrow .int (.int z) = .int z := rfl
  show Steps p.tables e below (T.setTop { method := m, pc := pc, locals := Ls, stack := _ :: rest, locked := none }) _
  jvm_step X.here [X.here.top, hx, hd, hm', hret, hn]
  first | (intro acts; rw [hl _ acts rfl rfl rfl]) | rw [hl _ _ rfl rfl rfl]
  exact Steps.refl _
/-- from this frame the walk comes to an end that says G -/
def Rch (p : Program) (e : Env) (below : List Frame) (G : State → Outcome → Prop) (T : State) (g : JFrame) : Prop :=
  ∃ s₂ o, Steps p.tables e below (T.setTop g) s₂ ∧ s₂.status = .running ∧ Ended s₂ below o ∧ G s₂ o
variable {G : State → Outcome → Prop} {T' : State} {g g' : JFrame}
theorem Rch.go (st : ∀ t, Steps p.tables e below (T'.setTop g') t → Steps p.tables e below (T.setTop g) t) (k : Rch p e below G T' g') : Rch p e below G T g := by
  obtain ⟨s2, o, a, b⟩ := k
  exact ⟨s2, o, st _ a, b⟩
theorem Rch.jump (st : Steps p.tables e below (T.setTop g) (T'.setTop g')) (k : Rch p e below G T' g') : Rch p e below G T g := Rch.go (fun _ q => st.trans q) k
theorem Rch.entry {n : Nat} (q : entryFrame m args n = g) (k : Rch p e below G T g) : ∃ s₂ o, Steps p.tables e below (T.setTop (entryFrame m args n)) s₂ ∧ s₂.status = .running ∧ Ended s₂ below o ∧ G s₂ o := by rw [q]; exact k
/-- what a contract says of its end -/
def EndQ (Q : Option Value → Heap → List Loc → Prop) (U : State) (kc ks : Nat) (U' : State) (o : Outcome) : Prop := ∃ v L, o = .returned v ∧ Q v U'.heap L ∧ FrameEnd U o U' L kc ks
variable {Q : Option Value → Heap → List Loc → Prop} {kc ks : Nat} {pc : Nat} {Ls : Array Slot} {rest : List Value}
theorem Rch.retI (X : Stand p l e R s m args below meth c T locs cells slots) (hx : p.tables.exec = Jvm.exec) (hlk : meth.locks = false) {z : Int32} (hret : meth.sig.returnType = some .int) (hd : decode c.code pc = .ok (.ireturn, 1)) (hc : cells ≤ kc) (hs : slots ≤ ks) (hQ : Q (some (.int z)) T.heap locs) : Rch p e below (EndQ Q s kc ks) T (mkF m pc Ls (.int z :: rest)) := by
  obtain ⟨fs, hr, hrun, hended, hW, hsame⟩ := X.leave (v := some (.int z)) (fun h => by rw [hret] at h; cases h)
  exact ⟨_, _, Jvm.RoadKit.retI X hx hret hd hr, hrun, hended, _, _, rfl, hQ, ⟨_, rfl⟩, hW, hsame.mono hc hs⟩
theorem Rch.retZ (X : Stand p l e R s m args below meth c T locs cells slots) (hx : p.tables.exec = Jvm.exec) (hlk : meth.locks = false) {z : Int32} (hret : meth.sig.returnType = some .boolean) (hd : decode c.code pc = .ok (.ireturn, 1)) (hc : cells ≤ kc) (hs : slots ≤ ks) (hQ : Q (some (.int (nar .boolean z))) T.heap locs) : Rch p e below (EndQ Q s kc ks) T (mkF m pc Ls (.int z :: rest)) := by
  obtain ⟨fs, hr, hrun, hended, hW, hsame⟩ := X.leave (v := some (.int (nar .boolean z))) (fun h => by rw [hret] at h; cases h)
  exact ⟨_, _, retN X hx hret (Or.inl rfl) hd hr, hrun, hended, _, _, rfl, hQ, ⟨_, rfl⟩, hW, hsame.mono hc hs⟩
theorem Rch.retJ (X : Stand p l e R s m args below meth c T locs cells slots) (hx : p.tables.exec = Jvm.exec) (hlk : meth.locks = false) {z : Int64} (hret : meth.sig.returnType = some .long) (hd : decode c.code pc = .ok (.lreturn, 1)) (hc : cells ≤ kc) (hs : slots ≤ ks) (hQ : Q (some (.long z)) T.heap locs) : Rch p e below (EndQ Q s kc ks) T (mkF m pc Ls (.long z :: rest)) := by
  obtain ⟨fs, hr, hrun, hended, hW, hsame⟩ := X.leave (v := some (.long z)) (fun h => by rw [hret] at h; cases h)
  exact ⟨_, _, retOut X hx hret rfl (Or.inr (Or.inl ⟨rfl, rfl, _, rfl⟩)) hd hr, hrun, hended, _, _, rfl, hQ, ⟨_, rfl⟩, hW, hsame.mono hc hs⟩
theorem Rch.retA (X : Stand p l e R s m args below meth c T locs cells slots) (hx : p.tables.exec = Jvm.exec) (hlk : meth.locks = false) {a : Addr} {t : FieldType} (ht : t.isReference = true) (hn : narrow t (.ref a) = .ref a) (hret : meth.sig.returnType = some t) (hd : decode c.code pc = .ok (.areturn, 1)) (hc : cells ≤ kc) (hs : slots ≤ ks) (hQ : Q (some (.ref a)) T.heap locs) : Rch p e below (EndQ Q s kc ks) T (mkF m pc Ls (.ref a :: rest)) := by
  obtain ⟨fs, hr, hrun, hended, hW, hsame⟩ := X.leave (v := some (.ref a)) (fun h => by rw [hret] at h; cases h)
  exact ⟨_, _, retOut X hx hret hn (Or.inr (Or.inr (Or.inr (Or.inr ⟨rfl, ht, rfl⟩)))) hd hr, hrun, hended, _, _, rfl, hQ, ⟨_, rfl⟩, hW, hsame.mono hc hs⟩
theorem Rch.retV (X : Stand p l e R s m args below meth c T locs cells slots) (hx : p.tables.exec = Jvm.exec) (hlk : meth.locks = false) (hret : meth.sig.returnType = none) (hd : decode c.code pc = .ok (.return_, 1)) (hc : cells ≤ kc) (hs : slots ≤ ks) (hQ : Q none T.heap locs) : Rch p e below (EndQ Q s kc ks) T (mkF m pc Ls []) := by
  obtain ⟨fs, hr, hrun, hended, hW, hsame⟩ := X.leave (v := none) (fun _ => rfl)
  exact ⟨_, _, X.returnOut hx hret hd hr, hrun, hended, _, _, rfl, hQ, ⟨_, rfl⟩, hW, hsame.mono hc hs⟩
variable {a : Addr} {k : ClassId} {z : Int32} {vs : List Value} {dv : Value} {ty : FieldType}
theorem ldB (X : Stand p l e R s m args below meth c T locs cells slots) (hx : p.tables.exec = Jvm.exec) (hZ : Z.Warmed39 s.vm) (eT : T.heap = h) (V : Arv Z h a k .byte z vs dv) {j : Int32} {v : Value} (hj : ¬ j < 0 ∧ j < z) (hv : vs.getD j.toNatClampNeg dv = v) (hg : g.method = m) (hs : g.stack = .int j :: .ref a :: rest) (hd : decode c.code g.pc = .ok (.baload, 1)) (target : State)
    (hr : Steps p.tables e below (T.setTop { g with pc := g.pc + 1, stack := v :: rest }) target) : Steps p.tables e below (T.setTop g) target := by
  obtain ⟨c', A, -, S, M, H, -⟩ := V
  exact X.baloadBytes hx (by rw [eT]; exact A.1) (State.isArrayOf_alike hZ.alike A.2.1) A.2.2 (inb_of S hj) (H.at (inb_of S hj) hv) hg hs hd target hr
theorem ldI (X : Stand p l e R s m args below meth c T locs cells slots) (hx : p.tables.exec = Jvm.exec) (hZ : Z.Warmed39 s.vm) (eT : T.heap = h) (V : Arv Z h a k .int z vs dv) {j : Int32} {v : Value} (hj : ¬ j < 0 ∧ j < z) (hv : vs.getD j.toNatClampNeg dv = v) (hg : g.method = m) (hs : g.stack = .int j :: .ref a :: rest) (hd : decode c.code g.pc = .ok (.iaload, 1)) (target : State)
    (hr : Steps p.tables e below (T.setTop { g with pc := g.pc + 1, stack := v :: rest }) target) : Steps p.tables e below (T.setTop g) target := by
  obtain ⟨c', A, -, S, M, H, -⟩ := V
  exact X.iaload hx (by rw [eT]; exact A.1) (State.isArrayOf_alike hZ.alike A.2.1) A.2.2 (inb_of S hj) (H.at (inb_of S hj) hv) hg hs hd target hr
theorem ldJ (X : Stand p l e R s m args below meth c T locs cells slots) (hx : p.tables.exec = Jvm.exec) (hZ : Z.Warmed39 s.vm) (eT : T.heap = h) (V : Arv Z h a k .long z vs dv) {j : Int32} {v : Value} (hj : ¬ j < 0 ∧ j < z) (hv : vs.getD j.toNatClampNeg dv = v) (hg : g.method = m) (hs : g.stack = .int j :: .ref a :: rest) (hd : decode c.code g.pc = .ok (.laload, 1)) (target : State)
    (hr : Steps p.tables e below (T.setTop { g with pc := g.pc + 1, stack := v :: rest }) target) : Steps p.tables e below (T.setTop g) target := by
  obtain ⟨c', A, -, S, M, H, -⟩ := V
  exact X.laload hx (by rw [eT]; exact A.1) (State.isArrayOf_alike hZ.alike A.2.1) A.2.2 (inb_of S hj) (H.at (inb_of S hj) hv) hg hs hd target hr
theorem lenA (X : Stand p l e R s m args below meth c T locs cells slots) (hx : p.tables.exec = Jvm.exec) (hZ : Z.Warmed39 s.vm) (eT : T.heap = h) (V : Arv Z h a k ty z vs dv) (hg : g.method = m) (hs : g.stack = .ref a :: rest) (hd : decode c.code g.pc = .ok (.arraylength, 1)) (target : State)
    (hr : Steps p.tables e below (T.setTop { g with pc := g.pc + 1, stack := .int z :: rest }) target) : Steps p.tables e below (T.setTop g) target := by
  obtain ⟨c', A, -, S, M, H, -⟩ := V
  exact X.arraylength hx (by rw [eT]; exact A.1) (State.isArrayOf_alike hZ.alike A.2.1) hg hs hd target (by rw [len_of S M]; exact hr)
theorem sdB (X : Stand p l e R s m args below meth c T locs cells slots) (hx : p.tables.exec = Jvm.exec) (hZ : Z.Warmed39 s.vm) (eT : T.heap = h) (V : Arv Z h a k .byte z vs dv) {j x : Int32} (hj : ¬ j < 0 ∧ j < z) (i : Nat) (hi : j.toNatClampNeg = i) (hl : i < vs.length) (hg : g.method = m) (hs : g.stack = .int x :: .int j :: .ref a :: rest) (hd : decode c.code g.pc = .ok (.bastore, 1)) :
    ∃ T' h', Stand p l e R s m args below meth c T' (locs ++ [⟨a, j.toNatClampNeg⟩]) cells slots ∧ T'.heap = h' ∧ Wr h h' a j.toNatClampNeg (.int (nar .byte x)) ∧ Arv Z h' a k .byte z (vs.set i (.int (nar .byte x))) dv ∧ ∀ target, Steps p.tables e below (T'.setTop { g with pc := g.pc + 1, stack := rest }) target → Steps p.tables e below (T.setTop g) target := by
  obtain ⟨c', A, q1, S, M, H, F⟩ := V
  obtain ⟨T', h', X', e', W, st⟩ := stB X hx hZ eT A (inb_of S hj) hg hs hd
  exact ⟨T', h', X', e', W, Arv.set A q1 S M H F (fits_nar_byte x) W i hi hl, st⟩
theorem sdI (X : Stand p l e R s m args below meth c T locs cells slots) (hx : p.tables.exec = Jvm.exec) (hZ : Z.Warmed39 s.vm) (eT : T.heap = h) (V : Arv Z h a k .int z vs dv) {j x : Int32} (hj : ¬ j < 0 ∧ j < z) (i : Nat) (hi : j.toNatClampNeg = i) (hl : i < vs.length) (hg : g.method = m) (hs : g.stack = .int x :: .int j :: .ref a :: rest) (hd : decode c.code g.pc = .ok (.iastore, 1)) :
    ∃ T' h', Stand p l e R s m args below meth c T' (locs ++ [⟨a, j.toNatClampNeg⟩]) cells slots ∧ T'.heap = h' ∧ Wr h h' a j.toNatClampNeg (.int x) ∧ Arv Z h' a k .int z (vs.set i (.int x)) dv ∧ ∀ target, Steps p.tables e below (T'.setTop { g with pc := g.pc + 1, stack := rest }) target → Steps p.tables e below (T.setTop g) target := by
  obtain ⟨c', A, q1, S, M, H, F⟩ := V
  obtain ⟨T', h', X', e', W, st⟩ := stI X hx hZ eT A (inb_of S hj) hg hs hd
  exact ⟨T', h', X', e', W, Arv.set A q1 S M H F rfl W i hi hl, st⟩
theorem sdJ (X : Stand p l e R s m args below meth c T locs cells slots) (hx : p.tables.exec = Jvm.exec) (hZ : Z.Warmed39 s.vm) (eT : T.heap = h) (V : Arv Z h a k .long z vs dv) {j : Int32} {x : Int64} (hj : ¬ j < 0 ∧ j < z) (i : Nat) (hi : j.toNatClampNeg = i) (hl : i < vs.length) (hg : g.method = m) (hs : g.stack = .long x :: .int j :: .ref a :: rest) (hd : decode c.code g.pc = .ok (.lastore, 1)) :
    ∃ T' h', Stand p l e R s m args below meth c T' (locs ++ [⟨a, j.toNatClampNeg⟩]) cells slots ∧ T'.heap = h' ∧ Wr h h' a j.toNatClampNeg (.long x) ∧ Arv Z h' a k .long z (vs.set i (.long x)) dv ∧ ∀ target, Steps p.tables e below (T'.setTop { g with pc := g.pc + 1, stack := rest }) target → Steps p.tables e below (T.setTop g) target := by
  obtain ⟨c', A, q1, S, M, H, F⟩ := V
  obtain ⟨T', h', X', e', W, st⟩ := stJ X hx hZ eT A (inb_of S hj) hg hs hd
  exact ⟨T', h', X', e', W, Arv.set A q1 S M H F rfl W i hi hl, st⟩
theorem naw (X : Stand p l e R s m args below meth c T locs cells slots) (hx : p.tables.exec = Jvm.exec) (hZ : Z.Warmed39 s.vm) {aty : ArrayType} (w : (Cond.arrayClass (newarray.typeOf aty)).before a0 Z = true) (eT : T.heap = h) (hg : g.method = m) (hd : decode c.code g.pc = .ok (.newarray aty, 2)) {n : Int32} (hs : g.stack = .int n :: rest)
    (hn : ¬ n < 0) (i : Nat) {cap : Nat} (hcap : n.toNatClampNeg ≤ cap) (hb : cap * 8 ≤ 536870912) (hc : cells + 1 ≤ R.cells) (hl : slots + cap ≤ R.slots) :
    ∃ T' h' cA, Stand p l e R s m args below meth c T' locs (cells + 1) (slots + cap) ∧ T'.heap = h' ∧ Ext h h' ∧ Arv Z h' h.size cA (newarray.typeOf aty) n (List.replicate i (defaultValue (newarray.typeOf aty))) (defaultValue (newarray.typeOf aty)) ∧
      ∀ target, Steps p.tables e below (T'.setTop { g with pc := g.pc + 2, stack := .ref h.size :: rest }) target → Steps p.tables e below (T.setTop g) target := by
  obtain ⟨T', h', cA, X', e', E, A, st⟩ := newP X hx hZ w eT hg hd hs hn hcap hb hc hl
  exact ⟨T', h', cA, X', e', E, (Arv.new A hn).pad (fun q => (pad_rep [] _ i q)), st⟩
end Own
end Jvm.RoadKit
namespace Jvm.Pilot.@@N@@
open Jvm Jvm.ClassFile Sem Op Lib Jvm.Free Jvm.Stand Jvm.LawKit Jvm.RoadKit Bundle Jvm.Pilot.@@N@@.Jvm.D
def own_Cz (Z : State) (h : Heap) (n0 : Nat) (co : Addr) (z : Int32) (f : Nat → Int64) : Prop := ∃ (ar : Addr) (k : ClassId) (vs : List Value), Exa Z h co "com/example/pocket_reasoner/pocketreasoner/tableau/ConceptCounts" ∧ Fld Z h co "com/example/pocket_reasoner/pocketreasoner/tableau/ConceptCounts" "counts" "[J" (.ref ar) ∧ Arv Z h ar k .long z vs (.long 0) ∧ vs.length = z.toNatClampNeg ∧ n0 ≤ ar ∧ n0 ≤ co ∧ 64 ≤ z.toInt ∧ z.toInt ≤ 510 ∧ (∀ i, vs.getD i (.long 0) = .long (f i)) ∧ (∀ i, vs.length ≤ i → f i = 0)
def own_max (a b : Int32) : Int32 := if a < b then b else a
def own_min (a b : Int32) : Int32 := if b < a then b else a
theorem own_getD_set (vs : List Value) (i j : Nat) (v dv : Value) (h : i < vs.length) : (vs.set i v).getD j dv = if j = i then v else vs.getD j dv := by
  simp only [List.getD_eq_getElem?_getD, List.getElem?_set]
  by_cases q : i = j
  · subst q; simp [h]
  · have q' : ¬ j = i := fun e => q e.symm
    simp [q, q']
theorem own_rep0 (n i : Nat) : (List.replicate n (Value.long 0)).getD i (.long 0) = .long 0 := by
  simp only [List.getD_eq_getElem?_getD, List.getElem?_replicate]
  split <;> rfl
theorem own_copy (vs : List Value) (n z i : Nat) (hz : vs.length = z) (h : z ≤ n) : ((List.replicate n (Value.long 0)).take 0 ++ ((List.range z).map fun i => vs.getD (0 + i) (.long 0)) ++ (List.replicate n (Value.long 0)).drop (0 + z)).getD i (.long 0) = vs.getD i (.long 0) := by
  simp only [List.take_zero, List.nil_append, Nat.zero_add, List.getD_eq_getElem?_getD, List.getElem?_append, List.length_map, List.length_range]
  split
  · rename_i q
    simp [List.getElem?_map, List.getElem?_range q]
  · rename_i q
    have : vs[i]? = none := List.getElem?_eq_none (by omega)
    rw [this]
    simp only [List.drop_replicate, List.getElem?_replicate]
    split <;> rfl
theorem own_copy_len (vs : List Value) (n z : Nat) (hz : vs.length = z) (h : z ≤ n) : ((List.replicate n (Value.long 0)).take 0 ++ ((List.range z).map fun i => vs.getD (0 + i) (.long 0)) ++ (List.replicate n (Value.long 0)).drop (0 + z)).length = n := by
  simp; omega
theorem own_nat (x : Int32) (h : 0 ≤ x.toInt) : (x.toNatClampNeg : Int) = x.toInt := by simp only [Int32.toNatClampNeg]; omega
theorem own_exa {Z : State} {h : Heap} {n0 : Nat} {co : Addr} {z : Int32} {f : Nat → Int64} (C : own_Cz Z h n0 co z f) : Exa Z h co "com/example/pocket_reasoner/pocketreasoner/tableau/ConceptCounts" := by obtain ⟨_, _, _, E, -⟩ := C; exact E
theorem own_ti (x y : Int32) (hx : 0 ≤ x.toInt) (hy : 0 ≤ y.toInt) : (x.toNatClampNeg = y.toNatClampNeg) = (x = y) := by
  have a := own_nat x hx
  have b := own_nat y hy
  refine propext ⟨fun q => ?_, fun q => by rw [q]⟩
  rw [← Int32.toInt_inj]; omega
theorem own_pn0 : plainFor (⟨"java/lang/Math", "max", "(II)I"⟩ : MethodName) = true := by first | exact plainFor_of_name (by first | (simp [plainName, overriddenIn]; done) | decide +kernel) | decide +kernel
theorem own_pd0 : parseMethodDescriptor "(II)I" = some ⟨[.int, .int], some .int⟩ := by decide +kernel
theorem dmx_0 : decode jdk_29_method_65_code 0 = .ok (.iload_n 0, 1) := by decide +kernel
theorem dmx_1 : decode jdk_29_method_65_code 1 = .ok (.iload_n 1, 1) := by decide +kernel
theorem dmx_2 : decode jdk_29_method_65_code 2 = .ok (.if_icmp .lt 7, 3) := by decide +kernel
theorem dmx_5 : decode jdk_29_method_65_code 5 = .ok (.iload_n 0, 1) := by decide +kernel
theorem dmx_6 : decode jdk_29_method_65_code 6 = .ok (.goto 4, 3) := by decide +kernel
theorem dmx_9 : decode jdk_29_method_65_code 9 = .ok (.iload_n 1, 1) := by decide +kernel
theorem dmx_10 : decode jdk_29_method_65_code 10 = .ok (.ireturn, 1) := by decide +kernel
theorem own_ef1 (m : MethodId) (x0 : Int32) (x1 : Int32) : entryFrame m #[(.int x0), (.int x1)] 2 = mkF m 0 #[.val (.int x0), .val (.int x1)] [] := by first | (simp [entryFrame, mkF, argsToLocals, Value.category, maxLocals]; done) | rfl
def Qrmmx (Z : State) (p1 : Int32) (p2 : Int32)  (h0 : Heap) (n0 : Nat) : Option Value → Heap → List Loc → Prop := fun v h L => v = some (.int (own_max p1 p2)) ∧ Fr n0 L ∧ h = h0
set_option maxRecDepth 65536 in
set_option maxHeartbeats 40000000 in
theorem rmmx (l : Launch) (Z : State) (a0 : Array Value) (hw : ∀ d ∈ tables_1, d.before a0 Z = true) (ws : List Jvm.Cond) (p1 : Int32) (p2 : Int32)  (h0 : Heap) (n0 : Nat) (Z0 : n0 ≤ h0.size)  :
    MetFree l (⟨"java/lang/Math", "max", "(II)I"⟩ : MethodName) (head1 (Jvm.Cond.code (⟨"java/lang/Math", "max", "(II)I"⟩ : MethodName) jdk_29_method_65_code 2 (some .int) :: ws) ({ frames := 0, cells := 0, slots := 0, locals := 0 } : Room)) (fun a U => a = #[(.int p1), (.int p2)] ∧ Z.Warmed39 U.vm ∧ U.heap = h0) (fun _ _ _ _ _ => True) (fun _ U o U' => ∃ v L, o = .returned v ∧ (Qrmmx Z p1 p2  h0 n0) v U'.heap L ∧ FrameEnd U o U' L ({ frames := 0, cells := 0, slots := 0, locals := 0 } : Room).cells ({ frames := 0, cells := 0, slots := 0, locals := 0 } : Room).slots) := by
  refine MetFree.of_bodySF own_pn0 hisR ?_
  intro p ev s m args below meth c s₁ Bd hml0 hP hK
  obtain ⟨rfl, hZ, hh⟩ := hP
  have hx := Bd.exec
  have hby := Bd.bytes
  have hlk := Bd.notSynchronized
  have hml : c.maxLocals = 2 := hml0
  have hown : s.vm.findClass "java/lang/Math" = some m.cls := findClass_of_methodNamed Bd.named
  have hnm := (name_of_methodNamed Bd.named Bd.method).1
  have X0 : Stand p l ev ({ frames := 0, cells := 0, slots := 0, locals := 0 } : Room) s m #[(.int p1), (.int p2)] below meth c s₁ [] 0 0 := Stand.of_body Bd
  have e0 : s₁.heap = h0 := by rw [← hh, Bd.state]; rfl
  have N0 := Fr.nil n0
  refine Rch.entry (G := (EndQ (Qrmmx Z p1 p2  h0 n0) s ({ frames := 0, cells := 0, slots := 0, locals := 0 } : Room).cells ({ frames := 0, cells := 0, slots := 0, locals := 0 } : Room).slots)) (own_ef1 m p1 p2) ?_
  show Rch p ev below _ s₁ (mkF m 0 #[.val (.int p1), .val (.int p2)] [])
  refine Rch.go (fun _ q => XS.iloadN X0.here hx rfl (hb hby dmx_0) rfl  q) ?_
  show Rch p ev below _ s₁ (mkF m 1 #[.val (.int p1), .val (.int p2)] [(.int p1)])
  refine Rch.go (fun _ q => XS.iloadN X0.here hx rfl (hb hby dmx_1) rfl  q) ?_
  show Rch p ev below _ s₁ (mkF m 2 #[.val (.int p1), .val (.int p2)] [(.int p2), (.int p1)])
  by_cases hc2 : p1 < p2
  · skip
    refine Rch.go (fun _ q => XS.icmpYes X0.here hx rfl (pc0 := 2) (pc' := 9) rfl (hb hby dmx_2) rfl (tlt hc2).1 (by decide) (by decide) q) ?_
    show Rch p ev below _ s₁ (mkF m 9 #[.val (.int p1), .val (.int p2)] [])
    refine Rch.go (fun _ q => XS.iloadN X0.here hx rfl (hb hby dmx_9) rfl  q) ?_
    show Rch p ev below _ s₁ (mkF m 10 #[.val (.int p1), .val (.int p2)] [(.int p2)])
    refine Rch.retI X0 hx hlk Bd.returns (hb hby dmx_10) (by decide) (by decide) ?_
    unfold Qrmmx
    exact ⟨by simp only [own_max, hc2, if_true, if_false], N0, e0⟩
  · skip
    refine Rch.go (fun _ q => XS.icmpNo X0.here hx rfl (hb hby dmx_2) rfl (flt hc2).1 q) ?_
    show Rch p ev below _ s₁ (mkF m 5 #[.val (.int p1), .val (.int p2)] [])
    refine Rch.go (fun _ q => XS.iloadN X0.here hx rfl (hb hby dmx_5) rfl  q) ?_
    show Rch p ev below _ s₁ (mkF m 6 #[.val (.int p1), .val (.int p2)] [(.int p1)])
    refine Rch.go (fun _ q => XS.goto X0.here hx rfl (pc0 := 6) (pc' := 10) rfl (hb hby dmx_6) (by decide) (by decide) q) ?_
    show Rch p ev below _ s₁ (mkF m 10 #[.val (.int p1), .val (.int p2)] [(.int p1)])
    refine Rch.retI X0 hx hlk Bd.returns (hb hby dmx_10) (by decide) (by decide) ?_
    unfold Qrmmx
    exact ⟨by simp only [own_max, hc2, if_true, if_false], N0, e0⟩
theorem own_pn1 : plainFor (⟨"java/lang/Math", "min", "(II)I"⟩ : MethodName) = true := by first | exact plainFor_of_name (by first | (simp [plainName, overriddenIn]; done) | decide +kernel) | decide +kernel
theorem dmn_0 : decode jdk_29_method_69_code 0 = .ok (.iload_n 0, 1) := by decide +kernel
theorem dmn_1 : decode jdk_29_method_69_code 1 = .ok (.iload_n 1, 1) := by decide +kernel
theorem dmn_2 : decode jdk_29_method_69_code 2 = .ok (.if_icmp .gt 7, 3) := by decide +kernel
theorem dmn_5 : decode jdk_29_method_69_code 5 = .ok (.iload_n 0, 1) := by decide +kernel
theorem dmn_6 : decode jdk_29_method_69_code 6 = .ok (.goto 4, 3) := by decide +kernel
theorem dmn_9 : decode jdk_29_method_69_code 9 = .ok (.iload_n 1, 1) := by decide +kernel
theorem dmn_10 : decode jdk_29_method_69_code 10 = .ok (.ireturn, 1) := by decide +kernel
theorem own_ef2 (m : MethodId) (x0 : Int32) (x1 : Int32) : entryFrame m #[(.int x0), (.int x1)] 2 = mkF m 0 #[.val (.int x0), .val (.int x1)] [] := by first | (simp [entryFrame, mkF, argsToLocals, Value.category, maxLocals]; done) | rfl
def Qrmmn (Z : State) (p1 : Int32) (p2 : Int32)  (h0 : Heap) (n0 : Nat) : Option Value → Heap → List Loc → Prop := fun v h L => v = some (.int (own_min p1 p2)) ∧ Fr n0 L ∧ h = h0
set_option maxRecDepth 65536 in
set_option maxHeartbeats 40000000 in
theorem rmmn (l : Launch) (Z : State) (a0 : Array Value) (hw : ∀ d ∈ tables_1, d.before a0 Z = true) (ws : List Jvm.Cond) (p1 : Int32) (p2 : Int32)  (h0 : Heap) (n0 : Nat) (Z0 : n0 ≤ h0.size)  :
    MetFree l (⟨"java/lang/Math", "min", "(II)I"⟩ : MethodName) (head1 (Jvm.Cond.code (⟨"java/lang/Math", "min", "(II)I"⟩ : MethodName) jdk_29_method_69_code 2 (some .int) :: ws) ({ frames := 0, cells := 0, slots := 0, locals := 0 } : Room)) (fun a U => a = #[(.int p1), (.int p2)] ∧ Z.Warmed39 U.vm ∧ U.heap = h0) (fun _ _ _ _ _ => True) (fun _ U o U' => ∃ v L, o = .returned v ∧ (Qrmmn Z p1 p2  h0 n0) v U'.heap L ∧ FrameEnd U o U' L ({ frames := 0, cells := 0, slots := 0, locals := 0 } : Room).cells ({ frames := 0, cells := 0, slots := 0, locals := 0 } : Room).slots) := by
  refine MetFree.of_bodySF own_pn1 hisR ?_
  intro p ev s m args below meth c s₁ Bd hml0 hP hK
  obtain ⟨rfl, hZ, hh⟩ := hP
  have hx := Bd.exec
  have hby := Bd.bytes
  have hlk := Bd.notSynchronized
  have hml : c.maxLocals = 2 := hml0
  have hown : s.vm.findClass "java/lang/Math" = some m.cls := findClass_of_methodNamed Bd.named
  have hnm := (name_of_methodNamed Bd.named Bd.method).1
  have X0 : Stand p l ev ({ frames := 0, cells := 0, slots := 0, locals := 0 } : Room) s m #[(.int p1), (.int p2)] below meth c s₁ [] 0 0 := Stand.of_body Bd
  have e0 : s₁.heap = h0 := by rw [← hh, Bd.state]; rfl
  have N0 := Fr.nil n0
  refine Rch.entry (G := (EndQ (Qrmmn Z p1 p2  h0 n0) s ({ frames := 0, cells := 0, slots := 0, locals := 0 } : Room).cells ({ frames := 0, cells := 0, slots := 0, locals := 0 } : Room).slots)) (own_ef2 m p1 p2) ?_
  show Rch p ev below _ s₁ (mkF m 0 #[.val (.int p1), .val (.int p2)] [])
  refine Rch.go (fun _ q => XS.iloadN X0.here hx rfl (hb hby dmn_0) rfl  q) ?_
  show Rch p ev below _ s₁ (mkF m 1 #[.val (.int p1), .val (.int p2)] [(.int p1)])
  refine Rch.go (fun _ q => XS.iloadN X0.here hx rfl (hb hby dmn_1) rfl  q) ?_
  show Rch p ev below _ s₁ (mkF m 2 #[.val (.int p1), .val (.int p2)] [(.int p2), (.int p1)])
  by_cases hc2 : p2 < p1
  · skip
    refine Rch.go (fun _ q => XS.icmpYes X0.here hx rfl (pc0 := 2) (pc' := 9) rfl (hb hby dmn_2) rfl (tlt hc2).2.2.1 (by decide) (by decide) q) ?_
    show Rch p ev below _ s₁ (mkF m 9 #[.val (.int p1), .val (.int p2)] [])
    refine Rch.go (fun _ q => XS.iloadN X0.here hx rfl (hb hby dmn_9) rfl  q) ?_
    show Rch p ev below _ s₁ (mkF m 10 #[.val (.int p1), .val (.int p2)] [(.int p2)])
    refine Rch.retI X0 hx hlk Bd.returns (hb hby dmn_10) (by decide) (by decide) ?_
    unfold Qrmmn
    exact ⟨by simp only [own_min, hc2, if_true, if_false], N0, e0⟩
  · skip
    refine Rch.go (fun _ q => XS.icmpNo X0.here hx rfl (hb hby dmn_2) rfl (flt hc2).2.2.1 q) ?_
    show Rch p ev below _ s₁ (mkF m 5 #[.val (.int p1), .val (.int p2)] [])
    refine Rch.go (fun _ q => XS.iloadN X0.here hx rfl (hb hby dmn_5) rfl  q) ?_
    show Rch p ev below _ s₁ (mkF m 6 #[.val (.int p1), .val (.int p2)] [(.int p1)])
    refine Rch.go (fun _ q => XS.goto X0.here hx rfl (pc0 := 6) (pc' := 10) rfl (hb hby dmn_6) (by decide) (by decide) q) ?_
    show Rch p ev below _ s₁ (mkF m 10 #[.val (.int p1), .val (.int p2)] [(.int p1)])
    refine Rch.retI X0 hx hlk Bd.returns (hb hby dmn_10) (by decide) (by decide) ?_
    unfold Qrmmn
    exact ⟨by simp only [own_min, hc2, if_true, if_false], N0, e0⟩
theorem own_pn2 : plainFor (⟨"java/util/Arrays", "copyOf", "([JI)[J"⟩ : MethodName) = true := by first | exact plainFor_of_name (by first | (simp [plainName, overriddenIn]; done) | decide +kernel) | decide +kernel
theorem own_pd1 : parseMethodDescriptor "([JI)[J" = some ⟨[(.array .long), .int], some (.array .long)⟩ := by decide +kernel
theorem dcp_0 : decode jdk_65_method_124_code 0 = .ok (.iload_n 1, 1) := by decide +kernel
theorem dcp_1 : decode jdk_65_method_124_code 1 = .ok (.aload_n 0, 1) := by decide +kernel
theorem dcp_2 : decode jdk_65_method_124_code 2 = .ok (.arraylength, 1) := by decide +kernel
theorem dcp_3 : decode jdk_65_method_124_code 3 = .ok (.if_icmp .ne 11, 3) := by decide +kernel
theorem dcp_6 : decode jdk_65_method_124_code 6 = .ok (.aload_n 0, 1) := by decide +kernel
theorem dcp_7 : decode jdk_65_method_124_code 7 = .ok (.invokevirtual 319, 3) := by decide +kernel
theorem dcp_10 : decode jdk_65_method_124_code 10 = .ok (.checkcast 320, 3) := by decide +kernel
theorem dcp_13 : decode jdk_65_method_124_code 13 = .ok (.areturn, 1) := by decide +kernel
theorem dcp_14 : decode jdk_65_method_124_code 14 = .ok (.iload_n 1, 1) := by decide +kernel
theorem dcp_15 : decode jdk_65_method_124_code 15 = .ok (.newarray .long, 2) := by decide +kernel
theorem dcp_17 : decode jdk_65_method_124_code 17 = .ok (.astore_n 2, 1) := by decide +kernel
theorem dcp_18 : decode jdk_65_method_124_code 18 = .ok (.aload_n 0, 1) := by decide +kernel
theorem dcp_19 : decode jdk_65_method_124_code 19 = .ok (.iconst 0, 1) := by decide +kernel
theorem dcp_20 : decode jdk_65_method_124_code 20 = .ok (.aload_n 2, 1) := by decide +kernel
theorem dcp_21 : decode jdk_65_method_124_code 21 = .ok (.iconst 0, 1) := by decide +kernel
theorem dcp_22 : decode jdk_65_method_124_code 22 = .ok (.aload_n 0, 1) := by decide +kernel
theorem dcp_23 : decode jdk_65_method_124_code 23 = .ok (.arraylength, 1) := by decide +kernel
theorem dcp_24 : decode jdk_65_method_124_code 24 = .ok (.iload_n 1, 1) := by decide +kernel
theorem dcp_25 : decode jdk_65_method_124_code 25 = .ok (.invokestatic 304, 3) := by decide +kernel
theorem dcp_28 : decode jdk_65_method_124_code 28 = .ok (.invokestatic 150, 3) := by decide +kernel
theorem dcp_31 : decode jdk_65_method_124_code 31 = .ok (.aload_n 2, 1) := by decide +kernel
theorem dcp_32 : decode jdk_65_method_124_code 32 = .ok (.areturn, 1) := by decide +kernel
theorem own_ef3 (m : MethodId) (x0 : Addr) (x1 : Int32) : entryFrame m #[(.ref x0), (.int x1)] 3 = mkF m 0 #[.val (.ref x0), .val (.int x1), .unset] [] := by first | (simp [entryFrame, mkF, argsToLocals, Value.category, maxLocals]; done) | rfl
def Qrmcp (Z : State) (a1 : Addr) (p2 : Int32) (k1 : ClassId) (zz : Int32) (vs : List Value) (h0 : Heap) (n0 : Nat) : Option Value → Heap → List Loc → Prop := fun v h L => ∃ (b : Addr) (kb : ClassId) (us : List Value), v = some (.ref b) ∧ Fr n0 L ∧ n0 ≤ b ∧ h0.size ≤ b ∧ n0 ≤ h.size ∧ Keep h0 h [] ∧ Arv Z h b kb .long p2 us (.long 0) ∧ us.length = p2.toNatClampNeg ∧ (∀ i, us.getD i (.long 0) = vs.getD i (.long 0))
set_option maxRecDepth 65536 in
set_option maxHeartbeats 40000000 in
theorem rmcp (l : Launch) (Z : State) (a0 : Array Value) (hw : ∀ d ∈ tables_1, d.before a0 Z = true) (ws : List Jvm.Cond) (a1 : Addr) (p2 : Int32) (k1 : ClassId) (zz : Int32) (vs : List Value) (h0 : Heap) (n0 : Nat) (Z0 : n0 ≤ h0.size) (V1 : Arv Z h0 a1 k1 .long zz vs (.long 0)) (hl1 : vs.length = zz.toNatClampNeg) (hz0 : 0 ≤ zz.toInt) (hzp : zz.toInt < p2.toInt) (hp5 : p2.toInt ≤ 510) :
    MetFree l (⟨"java/util/Arrays", "copyOf", "([JI)[J"⟩ : MethodName) (head1 (Jvm.Cond.code (⟨"java/util/Arrays", "copyOf", "([JI)[J"⟩ : MethodName) jdk_65_method_124_code 3 (some (.array .long)) :: ws) ({ frames := 1, cells := 1, slots := 510, locals := 32 } : Room)) (fun a U => a = #[(.ref a1), (.int p2)] ∧ Z.Warmed39 U.vm ∧ U.heap = h0) (fun _ _ _ _ _ => True) (fun _ U o U' => ∃ v L, o = .returned v ∧ (Qrmcp Z a1 p2 k1 zz vs h0 n0) v U'.heap L ∧ FrameEnd U o U' L ({ frames := 1, cells := 1, slots := 510, locals := 32 } : Room).cells ({ frames := 1, cells := 1, slots := 510, locals := 32 } : Room).slots) := by
  refine MetFree.of_bodySF own_pn2 hisR ?_
  intro p ev s m args below meth c s₁ Bd hml0 hP hK
  obtain ⟨rfl, hZ, hh⟩ := hP
  have hx := Bd.exec
  have hby := Bd.bytes
  have hlk := Bd.notSynchronized
  have hml : c.maxLocals = 3 := hml0
  have hown : s.vm.findClass "java/util/Arrays" = some m.cls := findClass_of_methodNamed Bd.named
  have hnm := (name_of_methodNamed Bd.named Bd.method).1
  have X0 : Stand p l ev ({ frames := 1, cells := 1, slots := 510, locals := 32 } : Room) s m #[(.ref a1), (.int p2)] below meth c s₁ [] 0 0 := Stand.of_body Bd
  have e0 : s₁.heap = h0 := by rw [← hh, Bd.state]; rfl
  have N0 := Fr.nil n0
  refine Rch.entry (G := (EndQ (Qrmcp Z a1 p2 k1 zz vs h0 n0) s ({ frames := 1, cells := 1, slots := 510, locals := 32 } : Room).cells ({ frames := 1, cells := 1, slots := 510, locals := 32 } : Room).slots)) (own_ef3 m a1 p2) ?_
  show Rch p ev below _ s₁ (mkF m 0 #[.val (.ref a1), .val (.int p2), .unset] [])
  have k0 : (0 : Int32).toInt = 0 := rfl
  have hne : ¬ p2 = zz := fun q => by rw [q] at hzp; omega
  have hnn : ¬ p2 < 0 := by rw [Int32.lt_iff_toInt_lt, k0]; omega
  have hzn : ¬ zz < 0 := by rw [Int32.lt_iff_toInt_lt, k0]; omega
  have nz := own_nat zz hz0
  have np := own_nat p2 (by omega)
  refine Rch.go (fun _ q => XS.iloadN X0.here hx rfl (hb hby dcp_0) rfl  q) ?_
  show Rch p ev below _ s₁ (mkF m 1 #[.val (.ref a1), .val (.int p2), .unset] [(.int p2)])
  refine Rch.go (fun _ q => XS.aloadN X0.here hx rfl (hb hby dcp_1) rfl rfl q) ?_
  show Rch p ev below _ s₁ (mkF m 2 #[.val (.ref a1), .val (.int p2), .unset] [(.ref a1), (.int p2)])
  refine Rch.go (fun _ q => lenA X0 hx hZ e0 V1 (g := (mkF m 2 #[.val (.ref a1), .val (.int p2), .unset] [(.ref a1), (.int p2)])) rfl rfl (hb hby dcp_2) _ q) ?_
  show Rch p ev below _ s₁ (mkF m 3 #[.val (.ref a1), .val (.int p2), .unset] [(.int zz), (.int p2)])
  refine Rch.go (fun _ q => XS.icmpYes X0.here hx rfl (pc0 := 3) (pc' := 14) rfl (hb hby dcp_3) rfl (feq hne).2 (by decide) (by decide) q) ?_
  show Rch p ev below _ s₁ (mkF m 14 #[.val (.ref a1), .val (.int p2), .unset] [])
  refine Rch.go (fun _ q => XS.iloadN X0.here hx rfl (hb hby dcp_14) rfl  q) ?_
  show Rch p ev below _ s₁ (mkF m 15 #[.val (.ref a1), .val (.int p2), .unset] [(.int p2)])
  obtain ⟨T101, h101, kk_bb, X101, e101, E101, V101, st101⟩ := naw X0 hx hZ (hw _ (List.mem_of_getElem? (i := 9) rfl)) e0 (g := (mkF m 15 #[.val (.ref a1), .val (.int p2), .unset] [(.int p2)])) rfl (hb hby dcp_15) rfl hnn p2.toNatClampNeg (cap := 510) (by omega) (by decide) (by decide) (by decide)
  obtain ⟨bb, g101⟩ : ∃ q, q = Array.size h0 := ⟨_, rfl⟩
  rw [← g101] at V101 st101
  have V_bb_101 : Arv Z h101 bb kk_bb .long p2 (List.replicate p2.toNatClampNeg (.long 0)) (.long 0) := V101
  have le_bb : n0 ≤ bb := by rw [g101]; exact Z0
  have Z101 : n0 ≤ h101.size := Nat.le_trans Z0 E101.1
  refine Rch.go st101 ?_
  show Rch p ev below _ T101 (mkF m 17 #[.val (.ref a1), .val (.int p2), .unset] [(.ref bb)])
  have V1_101 := V1.ext E101
  refine Rch.go (fun _ q => XS.astoreN X101.here hx rfl (hb hby dcp_17) rfl rfl (l' := #[.val (.ref a1), .val (.int p2), .val (.ref bb)]) rfl q) ?_
  show Rch p ev below _ T101 (mkF m 18 #[.val (.ref a1), .val (.int p2), .val (.ref bb)] [])
  refine Rch.go (fun _ q => XS.aloadN X101.here hx rfl (hb hby dcp_18) rfl rfl q) ?_
  show Rch p ev below _ T101 (mkF m 19 #[.val (.ref a1), .val (.int p2), .val (.ref bb)] [(.ref a1)])
  refine Rch.go (fun _ q => XS.iconst X101.here hx rfl (hb hby dcp_19) q) ?_
  show Rch p ev below _ T101 (mkF m 20 #[.val (.ref a1), .val (.int p2), .val (.ref bb)] [(.int (0 : Int32)), (.ref a1)])
  refine Rch.go (fun _ q => XS.aloadN X101.here hx rfl (hb hby dcp_20) rfl rfl q) ?_
  show Rch p ev below _ T101 (mkF m 21 #[.val (.ref a1), .val (.int p2), .val (.ref bb)] [(.ref bb), (.int (0 : Int32)), (.ref a1)])
  refine Rch.go (fun _ q => XS.iconst X101.here hx rfl (hb hby dcp_21) q) ?_
  show Rch p ev below _ T101 (mkF m 22 #[.val (.ref a1), .val (.int p2), .val (.ref bb)] [(.int (0 : Int32)), (.ref bb), (.int (0 : Int32)), (.ref a1)])
  refine Rch.go (fun _ q => XS.aloadN X101.here hx rfl (hb hby dcp_22) rfl rfl q) ?_
  show Rch p ev below _ T101 (mkF m 23 #[.val (.ref a1), .val (.int p2), .val (.ref bb)] [(.ref a1), (.int (0 : Int32)), (.ref bb), (.int (0 : Int32)), (.ref a1)])
  refine Rch.go (fun _ q => lenA X101 hx hZ e101 V1_101 (g := (mkF m 23 #[.val (.ref a1), .val (.int p2), .val (.ref bb)] [(.ref a1), (.int (0 : Int32)), (.ref bb), (.int (0 : Int32)), (.ref a1)])) rfl rfl (hb hby dcp_23) _ q) ?_
  show Rch p ev below _ T101 (mkF m 24 #[.val (.ref a1), .val (.int p2), .val (.ref bb)] [(.int zz), (.int (0 : Int32)), (.ref bb), (.int (0 : Int32)), (.ref a1)])
  refine Rch.go (fun _ q => XS.iloadN X101.here hx rfl (hb hby dcp_24) rfl  q) ?_
  show Rch p ev below _ T101 (mkF m 25 #[.val (.ref a1), .val (.int p2), .val (.ref bb)] [(.int p2), (.int zz), (.int (0 : Int32)), (.ref bb), (.int (0 : Int32)), (.ref a1)])
  obtain ⟨_, _, ⟨T102, L102, k102, n102⟩, -, X102, ⟨Lc102, hQ102, l102, y102, z102⟩, st102⟩ := Jvm.LawKit.callS X101 hx (y := (⟨"java/lang/Math", "min", "(II)I"⟩ : MethodName)) hown (mvT hZ (hw _ (List.mem_of_getElem? (i := 31) rfl))) (mvT hZ (hw _ (List.mem_of_getElem? (i := 32) rfl))) (mvT hZ (hw _ (List.mem_of_getElem? (i := 25) rfl))) (mvT hZ (hw _ (List.mem_of_getElem? (i := 33) rfl))) (by decide) (backOf (W := 4) (rmmn l Z a0 hw [] zz p2 h101 n0 Z101) hZ (hw _ (List.mem_of_getElem? (i := 33) rfl)) (hw _ (List.mem_of_getElem? (i := 25) rfl)) (by decide) (by decide)) (g := (mkF m 25 #[.val (.ref a1), .val (.int p2), .val (.ref bb)] [(.int p2), (.int zz), (.int (0 : Int32)), (.ref bb), (.int (0 : Int32)), (.ref a1)])) rfl (by rw [hml]; rfl) (argsL := [(.int zz), (.int p2)]) (rest := [(.int (0 : Int32)), (.ref bb), (.int (0 : Int32)), (.ref a1)]) (lenOf own_pd0 rfl) rfl (by show 2 * 0 + _ ≤ _; exact Nat.le_of_eq rfl) (hb hby dcp_25) (fun _ _ => ⟨rfl, e101, (by decide : 1 + 0 ≤ _), (by decide : 510 + 0 ≤ _)⟩)
  dsimp only [Pt.U, Pt.locs, Pt.cells, Pt.slots] at X102 l102 y102 z102 st102 hQ102
  subst l102 y102 z102
  obtain ⟨rfl, Nc, ec⟩ := hQ102
  refine Rch.go st102 ?_
  show Rch p ev below _ T102 (mkF m 28 #[.val (.ref a1), .val (.int p2), .val (.ref bb)] [(.int (own_min zz p2)), (.int (0 : Int32)), (.ref bb), (.int (0 : Int32)), (.ref a1)])
  have N102 := Fr.app N0 Nc
  have e102 := ec
  have hmn : own_min zz p2 = zz := by unfold own_min; rw [if_neg]; rw [Int32.lt_iff_toInt_lt]; omega
  rw [hmn]
  show Rch p ev below _ T102 (mkF m 28 #[.val (.ref a1), .val (.int p2), .val (.ref bb)] [(.int zz), (.int (0 : Int32)), (.ref bb), (.int (0 : Int32)), (.ref a1)])
  obtain ⟨T103, h103, L103, X103, e103, N103, K103, V103, st103⟩ := cpA X102 hx hZ hown (hw _ (List.mem_of_getElem? (i := 34) rfl)) (hw _ (List.mem_of_getElem? (i := 37) rfl)) (hw _ (List.mem_of_getElem? (i := 35) rfl)) (hw _ (List.mem_of_getElem? (i := 36) rfl)) e102 V1_101 V_bb_101 (Or.inl ⟨rfl, rfl⟩) (sp := 0) (dp := 0) (nn := zz) (by decide) (by decide) hzn (Nat.le_of_eq (Nat.zero_add _)) (by show 0 + _ ≤ _; omega) rfl (by rw [List.length_replicate]; show 0 + _ ≤ _; omega) N102 le_bb (g := (mkF m 28 #[.val (.ref a1), .val (.int p2), .val (.ref bb)] [(.int zz), (.int (0 : Int32)), (.ref bb), (.int (0 : Int32)), (.ref a1)])) rfl (by rw [hml]; rfl) rfl (hb hby dcp_28) (by decide) (W := 0) (by show 2 * 0 + _ ≤ _; exact Nat.le_of_eq rfl) (by decide)
  have V_bb_103 : Arv Z h103 bb kk_bb .long p2 ((List.replicate p2.toNatClampNeg (Value.long 0)).take 0 ++ ((List.range zz.toNatClampNeg).map fun i => vs.getD (0 + i) (.long 0)) ++ (List.replicate p2.toNatClampNeg (Value.long 0)).drop (0 + zz.toNatClampNeg)) (.long 0) := V103
  have KK : Keep h0 h103 [] := ((Keep.refl h0 []).ext E101).trans K103 (fun x hx => Or.inr (by rw [List.mem_singleton.mp hx, g101]; exact Nat.le_refl _))
  have Z103 : n0 ≤ h103.size := Nat.le_trans Z0 KK.1
  refine Rch.go st103 ?_
  show Rch p ev below _ T103 (mkF m 31 #[.val (.ref a1), .val (.int p2), .val (.ref bb)] [])
  refine Rch.go (fun _ q => XS.aloadN X103.here hx rfl (hb hby dcp_31) rfl rfl q) ?_
  show Rch p ev below _ T103 (mkF m 32 #[.val (.ref a1), .val (.int p2), .val (.ref bb)] [(.ref bb)])
  refine Rch.retA X103 hx hlk rfl rfl Bd.returns (hb hby dcp_32) (by decide) (by decide) ?_
  unfold Qrmcp
  rw [e103]
  exact ⟨bb, kk_bb, _, rfl, N103, le_bb, by rw [g101]; exact Nat.le_refl _, Z103, KK, V_bb_103, own_copy_len vs _ _ hl1 (by omega), fun i => own_copy vs _ _ i hl1 (by omega)⟩
theorem own_pn3 : plainFor (⟨"com/example/pocket_reasoner/pocketreasoner/tableau/ConceptCounts", "<init>", "()V"⟩ : MethodName) = true := by first | exact plainFor_of_name (by first | (simp [plainName, overriddenIn]; done) | decide +kernel) | decide +kernel
theorem own_pd2 : parseMethodDescriptor "()V" = some ⟨[], none⟩ := by decide +kernel
theorem d4_0 : decode prog_46_method_1_code 0 = .ok (.aload_n 0, 1) := by decide +kernel
theorem d4_1 : decode prog_46_method_1_code 1 = .ok (.invokespecial 1, 3) := by decide +kernel
theorem d4_4 : decode prog_46_method_1_code 4 = .ok (.aload_n 0, 1) := by decide +kernel
theorem d4_5 : decode prog_46_method_1_code 5 = .ok (.bipush 64, 2) := by decide +kernel
theorem d4_7 : decode prog_46_method_1_code 7 = .ok (.newarray .long, 2) := by decide +kernel
theorem d4_9 : decode prog_46_method_1_code 9 = .ok (.putfield 7, 3) := by decide +kernel
theorem d4_12 : decode prog_46_method_1_code 12 = .ok (.return_, 1) := by decide +kernel
theorem own_ef4 (m : MethodId) (x0 : Addr) : entryFrame m #[(.ref x0)] 1 = mkF m 0 #[.val (.ref x0)] [] := by first | (simp [entryFrame, mkF, argsToLocals, Value.category, maxLocals]; done) | rfl
def Qrm4 (Z : State) (a1 : Addr)  (h0 : Heap) (n0 : Nat) : Option Value → Heap → List Loc → Prop := fun v h L => v = none ∧ Fr n0 L ∧ n0 ≤ h.size ∧ own_Cz Z h n0 a1 64 (fun _ => 0)
set_option maxRecDepth 65536 in
set_option maxHeartbeats 40000000 in
theorem rm4 (l : Launch) (Z : State) (a0 : Array Value) (hw : ∀ d ∈ tables_1, d.before a0 Z = true) (ws : List Jvm.Cond) (a1 : Addr)  (h0 : Heap) (n0 : Nat) (Z0 : n0 ≤ h0.size) (F1 : Fld Z h0 a1 "com/example/pocket_reasoner/pocketreasoner/tableau/ConceptCounts" "counts" "[J" .null) (E1 : Exa Z h0 a1 "com/example/pocket_reasoner/pocketreasoner/tableau/ConceptCounts") (g1 : n0 ≤ a1) :
    MetFree l (⟨"com/example/pocket_reasoner/pocketreasoner/tableau/ConceptCounts", "<init>", "()V"⟩ : MethodName) (head1 (Jvm.Cond.code (⟨"com/example/pocket_reasoner/pocketreasoner/tableau/ConceptCounts", "<init>", "()V"⟩ : MethodName) prog_46_method_1_code 1 none :: ws) ({ frames := 1, cells := 1, slots := 64, locals := 12 } : Room)) (fun a U => a = #[(.ref a1)] ∧ Z.Warmed39 U.vm ∧ U.heap = h0) (fun _ _ _ _ _ => True) (fun _ U o U' => ∃ v L, o = .returned v ∧ (Qrm4 Z a1  h0 n0) v U'.heap L ∧ FrameEnd U o U' L ({ frames := 1, cells := 1, slots := 64, locals := 12 } : Room).cells ({ frames := 1, cells := 1, slots := 64, locals := 12 } : Room).slots) := by
  refine MetFree.of_bodySF own_pn3 hisR ?_
  intro p ev s m args below meth c s₁ Bd hml0 hP hK
  obtain ⟨rfl, hZ, hh⟩ := hP
  have hx := Bd.exec
  have hby := Bd.bytes
  have hlk := Bd.notSynchronized
  have hml : c.maxLocals = 1 := hml0
  have hown : s.vm.findClass "com/example/pocket_reasoner/pocketreasoner/tableau/ConceptCounts" = some m.cls := findClass_of_methodNamed Bd.named
  have hnm := (name_of_methodNamed Bd.named Bd.method).1
  have X0 : Stand p l ev ({ frames := 1, cells := 1, slots := 64, locals := 12 } : Room) s m #[(.ref a1)] below meth c s₁ [] 0 0 := Stand.of_body Bd
  have e0 : s₁.heap = h0 := by rw [← hh, Bd.state]; rfl
  have N0 := Fr.nil n0
  refine Rch.entry (G := (EndQ (Qrm4 Z a1  h0 n0) s ({ frames := 1, cells := 1, slots := 64, locals := 12 } : Room).cells ({ frames := 1, cells := 1, slots := 64, locals := 12 } : Room).slots)) (own_ef4 m a1) ?_
  show Rch p ev below _ s₁ (mkF m 0 #[.val (.ref a1)] [])
  refine Rch.go (fun _ q => XS.aloadN X0.here hx rfl (hb hby d4_0) rfl rfl q) ?_
  show Rch p ev below _ s₁ (mkF m 1 #[.val (.ref a1)] [(.ref a1)])
  obtain ⟨T101, X101, e101, st101⟩ := initO X0 hx hZ hown (hw _ (List.mem_of_getElem? (i := 6) rfl)) (hw _ (List.mem_of_getElem? (i := 7) rfl)) (hw _ (List.mem_of_getElem? (i := 8) rfl)) e0 (g := (mkF m 1 #[.val (.ref a1)] [(.ref a1)])) rfl (by rw [hml]; rfl) rfl (hb hby d4_1) (by decide) (W := 0) (by show 2 * 0 + _ ≤ _; exact Nat.le_of_eq rfl) (by decide)
  refine Rch.go st101 ?_
  show Rch p ev below _ T101 (mkF m 4 #[.val (.ref a1)] [])
  refine Rch.go (fun _ q => XS.aloadN X101.here hx rfl (hb hby d4_4) rfl rfl q) ?_
  show Rch p ev below _ T101 (mkF m 5 #[.val (.ref a1)] [(.ref a1)])
  refine Rch.go (fun _ q => XS.bipush X101.here hx rfl (hb hby d4_5) q) ?_
  show Rch p ev below _ T101 (mkF m 7 #[.val (.ref a1)] [(.int (64 : Int32)), (.ref a1)])
  obtain ⟨T102, h102, kk_bb, X102, e102, E102, V102, st102⟩ := naw X101 hx hZ (hw _ (List.mem_of_getElem? (i := 9) rfl)) e101 (g := (mkF m 7 #[.val (.ref a1)] [(.int (64 : Int32)), (.ref a1)])) rfl (hb hby d4_7) rfl (by decide) 64 (cap := 64) (by decide) (by decide) (by decide) (by decide)
  obtain ⟨bb, g102⟩ : ∃ q, q = Array.size h0 := ⟨_, rfl⟩
  rw [← g102] at V102 st102
  have V_bb_102 : Arv Z h102 bb kk_bb .long 64 (List.replicate 64 (.long 0)) (.long 0) := V102
  have le_bb : n0 ≤ bb := by rw [g102]; exact Z0
  have Z102 : n0 ≤ h102.size := Nat.le_trans Z0 E102.1
  refine Rch.go st102 ?_
  show Rch p ev below _ T102 (mkF m 9 #[.val (.ref a1)] [(.ref bb), (.ref a1)])
  have Fx := F1.ext E102
  have Ex := E1.ext E102
  have hne : a1 ≠ bb := Nat.ne_of_lt (by rw [g102]; exact E1.lt)
  obtain ⟨T103, h103, X103, e103, W103, st103⟩ := putF X102 hx hZ hown (host := "") (Or.inl (hw _ (List.mem_of_getElem? (i := 10) rfl))) Via.refl e102 Fx Ex (Or.inl (hw _ (List.mem_of_getElem? (i := 11) rfl))) (hw _ (List.mem_of_getElem? (i := 1) rfl)) (ty := (.array .long)) (by decide) rfl rfl (g := (mkF m 9 #[.val (.ref a1)] [(.ref bb), (.ref a1)])) rfl rfl (hb hby d4_9)
  have N103 := Fr.snoc X103 N0 g1
  have Z103 : n0 ≤ h103.size := by rw [W103.size]; exact Z102
  refine Rch.go st103 ?_
  show Rch p ev below _ T103 (mkF m 12 #[.val (.ref a1)] [])
  have Fy := Fx.same W103
  have Ey := Ex.wr W103
  have Vy := V_bb_102.other W103 hne.symm
  refine Rch.retV X103 hx hlk Bd.returns (hb hby d4_12) (by decide) (by decide) ?_
  unfold Qrm4
  rw [e103]
  exact ⟨rfl, N103, Z103, bb, kk_bb, _, Ey, Fy, Vy, by rw [List.length_replicate]; rfl, le_bb, g1, by decide, by decide, fun i => own_rep0 _ i, fun _ _ => rfl⟩
theorem own_pn4 : plainFor (⟨"com/example/pocket_reasoner/pocketreasoner/tableau/ConceptCounts", "of", "(I)J"⟩ : MethodName) = true := by first | exact plainFor_of_name (by first | (simp [plainName, overriddenIn]; done) | decide +kernel) | decide +kernel
theorem own_pd3 : parseMethodDescriptor "(I)J" = some ⟨[.int], some .long⟩ := by decide +kernel
theorem d5_0 : decode prog_46_method_2_code 0 = .ok (.iload_n 1, 1) := by decide +kernel
theorem d5_1 : decode prog_46_method_2_code 1 = .ok (.aload_n 0, 1) := by decide +kernel
theorem d5_2 : decode prog_46_method_2_code 2 = .ok (.getfield 7, 3) := by decide +kernel
theorem d5_5 : decode prog_46_method_2_code 5 = .ok (.arraylength, 1) := by decide +kernel
theorem d5_6 : decode prog_46_method_2_code 6 = .ok (.if_icmp .ge 12, 3) := by decide +kernel
theorem d5_9 : decode prog_46_method_2_code 9 = .ok (.aload_n 0, 1) := by decide +kernel
theorem d5_10 : decode prog_46_method_2_code 10 = .ok (.getfield 7, 3) := by decide +kernel
theorem d5_13 : decode prog_46_method_2_code 13 = .ok (.iload_n 1, 1) := by decide +kernel
theorem d5_14 : decode prog_46_method_2_code 14 = .ok (.laload, 1) := by decide +kernel
theorem d5_15 : decode prog_46_method_2_code 15 = .ok (.goto 4, 3) := by decide +kernel
theorem d5_18 : decode prog_46_method_2_code 18 = .ok (.lconst 0, 1) := by decide +kernel
theorem d5_19 : decode prog_46_method_2_code 19 = .ok (.lreturn, 1) := by decide +kernel
theorem own_ef5 (m : MethodId) (x0 : Addr) (x1 : Int32) : entryFrame m #[(.ref x0), (.int x1)] 2 = mkF m 0 #[.val (.ref x0), .val (.int x1)] [] := by first | (simp [entryFrame, mkF, argsToLocals, Value.category, maxLocals]; done) | rfl
def Qrm5 (Z : State) (a1 : Addr) (p2 : Int32) (zz : Int32) (f : Nat → Int64) (h0 : Heap) (n0 : Nat) : Option Value → Heap → List Loc → Prop := fun v h L => v = some (.long (f p2.toNatClampNeg)) ∧ Fr n0 L ∧ h = h0
set_option maxRecDepth 65536 in
set_option maxHeartbeats 40000000 in
theorem rm5 (l : Launch) (Z : State) (a0 : Array Value) (hw : ∀ d ∈ tables_1, d.before a0 Z = true) (ws : List Jvm.Cond) (a1 : Addr) (p2 : Int32) (zz : Int32) (f : Nat → Int64) (h0 : Heap) (n0 : Nat) (Z0 : n0 ≤ h0.size) (C1 : own_Cz Z h0 n0 a1 zz f) (hq : 0 ≤ p2.toInt) :
    MetFree l (⟨"com/example/pocket_reasoner/pocketreasoner/tableau/ConceptCounts", "of", "(I)J"⟩ : MethodName) (head1 (Jvm.Cond.code (⟨"com/example/pocket_reasoner/pocketreasoner/tableau/ConceptCounts", "of", "(I)J"⟩ : MethodName) prog_46_method_2_code 2 (some .long) :: ws) ({ frames := 0, cells := 0, slots := 0, locals := 0 } : Room)) (fun a U => a = #[(.ref a1), (.int p2)] ∧ Z.Warmed39 U.vm ∧ U.heap = h0) (fun _ _ _ _ _ => True) (fun _ U o U' => ∃ v L, o = .returned v ∧ (Qrm5 Z a1 p2 zz f h0 n0) v U'.heap L ∧ FrameEnd U o U' L ({ frames := 0, cells := 0, slots := 0, locals := 0 } : Room).cells ({ frames := 0, cells := 0, slots := 0, locals := 0 } : Room).slots) := by
  refine MetFree.of_bodySF own_pn4 hisR ?_
  intro p ev s m args below meth c s₁ Bd hml0 hP hK
  obtain ⟨rfl, hZ, hh⟩ := hP
  have hx := Bd.exec
  have hby := Bd.bytes
  have hlk := Bd.notSynchronized
  have hml : c.maxLocals = 2 := hml0
  have hown : s.vm.findClass "com/example/pocket_reasoner/pocketreasoner/tableau/ConceptCounts" = some m.cls := findClass_of_methodNamed Bd.named
  have hnm := (name_of_methodNamed Bd.named Bd.method).1
  have X0 : Stand p l ev ({ frames := 0, cells := 0, slots := 0, locals := 0 } : Room) s m #[(.ref a1), (.int p2)] below meth c s₁ [] 0 0 := Stand.of_body Bd
  have e0 : s₁.heap = h0 := by rw [← hh, Bd.state]; rfl
  have N0 := Fr.nil n0
  refine Rch.entry (G := (EndQ (Qrm5 Z a1 p2 zz f h0 n0) s ({ frames := 0, cells := 0, slots := 0, locals := 0 } : Room).cells ({ frames := 0, cells := 0, slots := 0, locals := 0 } : Room).slots)) (own_ef5 m a1 p2) ?_
  show Rch p ev below _ s₁ (mkF m 0 #[.val (.ref a1), .val (.int p2)] [])
  obtain ⟨ar, k1, vs, E1, F1, V1, hl1, ga, gc, z64, z510, hv, hz⟩ := C1
  have k0 : (0 : Int32).toInt = 0 := rfl
  have nz := own_nat zz (by omega)
  have np := own_nat p2 hq
  refine Rch.go (fun _ q => XS.iloadN X0.here hx rfl (hb hby d5_0) rfl  q) ?_
  show Rch p ev below _ s₁ (mkF m 1 #[.val (.ref a1), .val (.int p2)] [(.int p2)])
  refine Rch.go (fun _ q => XS.aloadN X0.here hx rfl (hb hby d5_1) rfl rfl q) ?_
  show Rch p ev below _ s₁ (mkF m 2 #[.val (.ref a1), .val (.int p2)] [(.ref a1), (.int p2)])
  obtain ⟨T101, X101, e101, st101⟩ := getF X0 hx hZ hown (host := "") (Or.inl (hw _ (List.mem_of_getElem? (i := 10) rfl))) Via.refl e0 F1 (g := (mkF m 2 #[.val (.ref a1), .val (.int p2)] [(.ref a1), (.int p2)])) rfl rfl (hb hby d5_2)
  refine Rch.go st101 ?_
  show Rch p ev below _ T101 (mkF m 5 #[.val (.ref a1), .val (.int p2)] [(.ref ar), (.int p2)])
  refine Rch.go (fun _ q => lenA X101 hx hZ e101 V1 (g := (mkF m 5 #[.val (.ref a1), .val (.int p2)] [(.ref ar), (.int p2)])) rfl rfl (hb hby d5_5) _ q) ?_
  show Rch p ev below _ T101 (mkF m 6 #[.val (.ref a1), .val (.int p2)] [(.int zz), (.int p2)])
  by_cases hc6 : p2 < zz
  · skip
    refine Rch.go (fun _ q => XS.icmpNo X101.here hx rfl (hb hby d5_6) rfl (tlt hc6).2.1 q) ?_
    show Rch p ev below _ T101 (mkF m 9 #[.val (.ref a1), .val (.int p2)] [])
    refine Rch.go (fun _ q => XS.aloadN X101.here hx rfl (hb hby d5_9) rfl rfl q) ?_
    show Rch p ev below _ T101 (mkF m 10 #[.val (.ref a1), .val (.int p2)] [(.ref a1)])
    obtain ⟨T102, X102, e102, st102⟩ := getF X101 hx hZ hown (host := "") (Or.inl (hw _ (List.mem_of_getElem? (i := 10) rfl))) Via.refl e101 F1 (g := (mkF m 10 #[.val (.ref a1), .val (.int p2)] [(.ref a1)])) rfl rfl (hb hby d5_10)
    refine Rch.go st102 ?_
    show Rch p ev below _ T102 (mkF m 13 #[.val (.ref a1), .val (.int p2)] [(.ref ar)])
    refine Rch.go (fun _ q => XS.iloadN X102.here hx rfl (hb hby d5_13) rfl  q) ?_
    show Rch p ev below _ T102 (mkF m 14 #[.val (.ref a1), .val (.int p2)] [(.int p2), (.ref ar)])
    refine Rch.go (fun _ q => ldJ X102 hx hZ e102 V1 (j := p2) (v := (.long (f p2.toNatClampNeg))) ⟨by rw [Int32.lt_iff_toInt_lt, k0]; omega, hc6⟩ (hv _) (g := (mkF m 14 #[.val (.ref a1), .val (.int p2)] [(.int p2), (.ref ar)])) rfl rfl (hb hby d5_14) _ q) ?_
    show Rch p ev below _ T102 (mkF m 15 #[.val (.ref a1), .val (.int p2)] [(.long (f p2.toNatClampNeg))])
    refine Rch.go (fun _ q => XS.goto X102.here hx rfl (pc0 := 15) (pc' := 19) rfl (hb hby d5_15) (by decide) (by decide) q) ?_
    show Rch p ev below _ T102 (mkF m 19 #[.val (.ref a1), .val (.int p2)] [(.long (f p2.toNatClampNeg))])
    refine Rch.retJ X102 hx hlk Bd.returns (hb hby d5_19) (by decide) (by decide) ?_
    unfold Qrm5
    exact ⟨rfl, N0, e102⟩
  · skip
    refine Rch.go (fun _ q => XS.icmpYes X101.here hx rfl (pc0 := 6) (pc' := 18) rfl (hb hby d5_6) rfl (flt hc6).2.1 (by decide) (by decide) q) ?_
    show Rch p ev below _ T101 (mkF m 18 #[.val (.ref a1), .val (.int p2)] [])
    refine Rch.go (fun _ q => XS.lconst X101.here hx rfl (hb hby d5_18) q) ?_
    show Rch p ev below _ T101 (mkF m 19 #[.val (.ref a1), .val (.int p2)] [(.long (0 : Int64))])
    refine Rch.retJ X101 hx hlk Bd.returns (hb hby d5_19) (by decide) (by decide) ?_
    unfold Qrm5
    exact ⟨by rw [hz _ (by rw [hl1]; rw [Int32.lt_iff_toInt_lt] at hc6; omega)], N0, e101⟩
theorem own_pn5 : plainFor (⟨"com/example/pocket_reasoner/pocketreasoner/tableau/ConceptCounts", "increment", "(I)V"⟩ : MethodName) = true := by first | exact plainFor_of_name (by first | (simp [plainName, overriddenIn]; done) | decide +kernel) | decide +kernel
theorem own_pd4 : parseMethodDescriptor "(I)V" = some ⟨[.int], none⟩ := by decide +kernel
theorem d6_0 : decode prog_46_method_3_code 0 = .ok (.iload_n 1, 1) := by decide +kernel
theorem d6_1 : decode prog_46_method_3_code 1 = .ok (.aload_n 0, 1) := by decide +kernel
theorem d6_2 : decode prog_46_method_3_code 2 = .ok (.getfield 7, 3) := by decide +kernel
theorem d6_5 : decode prog_46_method_3_code 5 = .ok (.arraylength, 1) := by decide +kernel
theorem d6_6 : decode prog_46_method_3_code 6 = .ok (.if_icmp .lt 27, 3) := by decide +kernel
theorem d6_9 : decode prog_46_method_3_code 9 = .ok (.aload_n 0, 1) := by decide +kernel
theorem d6_10 : decode prog_46_method_3_code 10 = .ok (.aload_n 0, 1) := by decide +kernel
theorem d6_11 : decode prog_46_method_3_code 11 = .ok (.getfield 7, 3) := by decide +kernel
theorem d6_14 : decode prog_46_method_3_code 14 = .ok (.iconst 2, 1) := by decide +kernel
theorem d6_15 : decode prog_46_method_3_code 15 = .ok (.aload_n 0, 1) := by decide +kernel
theorem d6_16 : decode prog_46_method_3_code 16 = .ok (.getfield 7, 3) := by decide +kernel
theorem d6_19 : decode prog_46_method_3_code 19 = .ok (.arraylength, 1) := by decide +kernel
theorem d6_20 : decode prog_46_method_3_code 20 = .ok (.imul, 1) := by decide +kernel
theorem d6_21 : decode prog_46_method_3_code 21 = .ok (.iload_n 1, 1) := by decide +kernel
theorem d6_22 : decode prog_46_method_3_code 22 = .ok (.iconst 1, 1) := by decide +kernel
theorem d6_23 : decode prog_46_method_3_code 23 = .ok (.iadd, 1) := by decide +kernel
theorem d6_24 : decode prog_46_method_3_code 24 = .ok (.invokestatic 13, 3) := by decide +kernel
theorem d6_27 : decode prog_46_method_3_code 27 = .ok (.invokestatic 19, 3) := by decide +kernel
theorem d6_30 : decode prog_46_method_3_code 30 = .ok (.putfield 7, 3) := by decide +kernel
theorem d6_33 : decode prog_46_method_3_code 33 = .ok (.aload_n 0, 1) := by decide +kernel
theorem d6_34 : decode prog_46_method_3_code 34 = .ok (.getfield 7, 3) := by decide +kernel
theorem d6_37 : decode prog_46_method_3_code 37 = .ok (.iload_n 1, 1) := by decide +kernel
theorem d6_38 : decode prog_46_method_3_code 38 = .ok (.dup2, 1) := by decide +kernel
theorem d6_39 : decode prog_46_method_3_code 39 = .ok (.laload, 1) := by decide +kernel
theorem d6_40 : decode prog_46_method_3_code 40 = .ok (.lconst 1, 1) := by decide +kernel
theorem d6_41 : decode prog_46_method_3_code 41 = .ok (.ladd, 1) := by decide +kernel
theorem d6_42 : decode prog_46_method_3_code 42 = .ok (.lastore, 1) := by decide +kernel
theorem d6_43 : decode prog_46_method_3_code 43 = .ok (.return_, 1) := by decide +kernel
theorem own_ef6 (m : MethodId) (x0 : Addr) (x1 : Int32) : entryFrame m #[(.ref x0), (.int x1)] 2 = mkF m 0 #[.val (.ref x0), .val (.int x1)] [] := by first | (simp [entryFrame, mkF, argsToLocals, Value.category, maxLocals]; done) | rfl
def Qrm6 (Z : State) (a1 : Addr) (p2 : Int32) (zz : Int32) (f : Nat → Int64) (h0 : Heap) (n0 : Nat) : Option Value → Heap → List Loc → Prop := fun v h L => v = none ∧ Fr n0 L ∧ n0 ≤ h.size ∧ ∃ z, own_Cz Z h n0 a1 z (fun i => if i = p2.toNatClampNeg then f i + 1 else f i)
set_option maxRecDepth 65536 in
set_option maxHeartbeats 40000000 in
theorem rm6 (l : Launch) (Z : State) (a0 : Array Value) (hw : ∀ d ∈ tables_1, d.before a0 Z = true) (ws : List Jvm.Cond) (a1 : Addr) (p2 : Int32) (zz : Int32) (f : Nat → Int64) (h0 : Heap) (n0 : Nat) (Z0 : n0 ≤ h0.size) (C1 : own_Cz Z h0 n0 a1 zz f) (hq : 0 ≤ p2.toInt) (hq5 : p2.toInt ≤ 255) :
    MetFree l (⟨"com/example/pocket_reasoner/pocketreasoner/tableau/ConceptCounts", "increment", "(I)V"⟩ : MethodName) (head1 (Jvm.Cond.code (⟨"com/example/pocket_reasoner/pocketreasoner/tableau/ConceptCounts", "increment", "(I)V"⟩ : MethodName) prog_46_method_3_code 2 none :: ws) ({ frames := 2, cells := 1, slots := 510, locals := 50 } : Room)) (fun a U => a = #[(.ref a1), (.int p2)] ∧ Z.Warmed39 U.vm ∧ U.heap = h0) (fun _ _ _ _ _ => True) (fun _ U o U' => ∃ v L, o = .returned v ∧ (Qrm6 Z a1 p2 zz f h0 n0) v U'.heap L ∧ FrameEnd U o U' L ({ frames := 2, cells := 1, slots := 510, locals := 50 } : Room).cells ({ frames := 2, cells := 1, slots := 510, locals := 50 } : Room).slots) := by
  refine MetFree.of_bodySF own_pn5 hisR ?_
  intro p ev s m args below meth c s₁ Bd hml0 hP hK
  obtain ⟨rfl, hZ, hh⟩ := hP
  have hx := Bd.exec
  have hby := Bd.bytes
  have hlk := Bd.notSynchronized
  have hml : c.maxLocals = 2 := hml0
  have hown : s.vm.findClass "com/example/pocket_reasoner/pocketreasoner/tableau/ConceptCounts" = some m.cls := findClass_of_methodNamed Bd.named
  have hnm := (name_of_methodNamed Bd.named Bd.method).1
  have X0 : Stand p l ev ({ frames := 2, cells := 1, slots := 510, locals := 50 } : Room) s m #[(.ref a1), (.int p2)] below meth c s₁ [] 0 0 := Stand.of_body Bd
  have e0 : s₁.heap = h0 := by rw [← hh, Bd.state]; rfl
  have N0 := Fr.nil n0
  refine Rch.entry (G := (EndQ (Qrm6 Z a1 p2 zz f h0 n0) s ({ frames := 2, cells := 1, slots := 510, locals := 50 } : Room).cells ({ frames := 2, cells := 1, slots := 510, locals := 50 } : Room).slots)) (own_ef6 m a1 p2) ?_
  show Rch p ev below _ s₁ (mkF m 0 #[.val (.ref a1), .val (.int p2)] [])
  have k0 : (0 : Int32).toInt = 0 := rfl
  have kI1 : (1 : Int32).toInt = 1 := rfl
  have kI2 : (2 : Int32).toInt = 2 := rfl
  have np := own_nat p2 hq
  have tail : ∀ (Tt : State) (ht : Heap) (Lt : List Loc) (ct st : Nat) (zt : Int32), Stand p l ev ({ frames := 2, cells := 1, slots := 510, locals := 50 } : Room) s m #[(.ref a1), (.int p2)] below meth c Tt Lt ct st → Tt.heap = ht → Fr n0 Lt → ct ≤ 1 → st ≤ 510 → n0 ≤ ht.size → own_Cz Z ht n0 a1 zt f → p2 < zt → Rch p ev below (EndQ (Qrm6 Z a1 p2 zz f h0 n0) s ({ frames := 2, cells := 1, slots := 510, locals := 50 } : Room).cells ({ frames := 2, cells := 1, slots := 510, locals := 50 } : Room).slots) Tt (mkF m 33 #[.val (.ref a1), .val (.int p2)] []) := by
    intro Tt ht Lt ct st zt Xt et Nt hct hst Zt Ct hlt
    obtain ⟨ar, k1, vs, E1, F1, V1, hl1, ga, gc, z64, z510, hv, hz⟩ := Ct
    have nz := own_nat zt (by omega)
    have hlt' := Int32.lt_iff_toInt_lt.mp hlt
    have hix : p2.toNatClampNeg < vs.length := by rw [hl1]; omega
    have hj : ¬ p2 < 0 ∧ p2 < zt := ⟨by rw [Int32.lt_iff_toInt_lt, k0]; omega, hlt⟩
    have hne : a1 ≠ ar := by obtain ⟨cl, A, -⟩ := V1; exact ne_arr E1 (hw _ (List.mem_of_getElem? (i := 1) rfl)) A
    show Rch p ev below _ Tt (mkF m 33 #[.val (.ref a1), .val (.int p2)] [])
    refine Rch.go (fun _ q => XS.aloadN Xt.here hx rfl (hb hby d6_33) rfl rfl q) ?_
    show Rch p ev below _ Tt (mkF m 34 #[.val (.ref a1), .val (.int p2)] [(.ref a1)])
    obtain ⟨T101, X101, e101, st101⟩ := getF Xt hx hZ hown (host := "") (Or.inl (hw _ (List.mem_of_getElem? (i := 10) rfl))) Via.refl et F1 (g := (mkF m 34 #[.val (.ref a1), .val (.int p2)] [(.ref a1)])) rfl rfl (hb hby d6_34)
    refine Rch.go st101 ?_
    show Rch p ev below _ T101 (mkF m 37 #[.val (.ref a1), .val (.int p2)] [(.ref ar)])
    refine Rch.go (fun _ q => XS.iloadN X101.here hx rfl (hb hby d6_37) rfl  q) ?_
    show Rch p ev below _ T101 (mkF m 38 #[.val (.ref a1), .val (.int p2)] [(.int p2), (.ref ar)])
    refine Rch.go (fun _ q => XT.dup2 X101.here hx rfl (hb hby d6_38) rfl rfl rfl q) ?_
    show Rch p ev below _ T101 (mkF m 39 #[.val (.ref a1), .val (.int p2)] [(.int p2), (.ref ar), (.int p2), (.ref ar)])
    refine Rch.go (fun _ q => ldJ X101 hx hZ e101 V1 (j := p2) (v := (.long (f p2.toNatClampNeg))) hj (hv _) (g := (mkF m 39 #[.val (.ref a1), .val (.int p2)] [(.int p2), (.ref ar), (.int p2), (.ref ar)])) rfl rfl (hb hby d6_39) _ q) ?_
    show Rch p ev below _ T101 (mkF m 40 #[.val (.ref a1), .val (.int p2)] [(.long (f p2.toNatClampNeg)), (.int p2), (.ref ar)])
    refine Rch.go (fun _ q => XS.lconst X101.here hx rfl (hb hby d6_40) q) ?_
    show Rch p ev below _ T101 (mkF m 41 #[.val (.ref a1), .val (.int p2)] [(.long (1 : Int64)), (.long (f p2.toNatClampNeg)), (.int p2), (.ref ar)])
    refine Rch.go (fun _ q => XS.ladd X101.here hx rfl (hb hby d6_41) rfl q) ?_
    show Rch p ev below _ T101 (mkF m 42 #[.val (.ref a1), .val (.int p2)] [(.long ((f p2.toNatClampNeg) + (1 : Int64))), (.int p2), (.ref ar)])
    obtain ⟨T102, h102, X102, e102, W102, V102, st102⟩ := sdJ X101 hx hZ e101 V1 (j := p2) hj _ rfl hix (g := (mkF m 42 #[.val (.ref a1), .val (.int p2)] [(.long ((f p2.toNatClampNeg) + (1 : Int64))), (.int p2), (.ref ar)])) rfl rfl (hb hby d6_42)
    have N102 := Fr.snoc X102 Nt ga
    have Z102 : n0 ≤ h102.size := by rw [W102.size]; exact Zt
    have Fy := F1.other W102 (Or.inl hne)
    have Ey := E1.wr W102
    refine Rch.go st102 ?_
    show Rch p ev below _ T102 (mkF m 43 #[.val (.ref a1), .val (.int p2)] [])
    refine Rch.retV X102 hx hlk Bd.returns (hb hby d6_43) hct hst ?_
    unfold Qrm6
    rw [e102]
    refine ⟨rfl, N102, Z102, zt, ar, k1, _, Ey, Fy, V102, by rw [List.length_set]; exact hl1, ga, gc, z64, z510, fun i => ?_, fun i hi => ?_⟩
    · rw [own_getD_set _ _ _ _ _ hix]
      by_cases q : i = p2.toNatClampNeg
      · simp only [q, if_true]
      · simp only [q, if_false]; exact hv i
    · rw [List.length_set] at hi
      have q : ¬ i = p2.toNatClampNeg := by omega
      simp only [q, if_false]; exact hz i hi
  obtain ⟨ar, k1, vs, E1, F1, V1, hl1, ga, gc, z64, z510, hv, hz⟩ := id C1
  have nz := own_nat zz (by omega)
  have hne : a1 ≠ ar := by obtain ⟨cl, A, -⟩ := V1; exact ne_arr E1 (hw _ (List.mem_of_getElem? (i := 1) rfl)) A
  refine Rch.go (fun _ q => XS.iloadN X0.here hx rfl (hb hby d6_0) rfl  q) ?_
  show Rch p ev below _ s₁ (mkF m 1 #[.val (.ref a1), .val (.int p2)] [(.int p2)])
  refine Rch.go (fun _ q => XS.aloadN X0.here hx rfl (hb hby d6_1) rfl rfl q) ?_
  show Rch p ev below _ s₁ (mkF m 2 #[.val (.ref a1), .val (.int p2)] [(.ref a1), (.int p2)])
  obtain ⟨T103, X103, e103, st103⟩ := getF X0 hx hZ hown (host := "") (Or.inl (hw _ (List.mem_of_getElem? (i := 10) rfl))) Via.refl e0 F1 (g := (mkF m 2 #[.val (.ref a1), .val (.int p2)] [(.ref a1), (.int p2)])) rfl rfl (hb hby d6_2)
  refine Rch.go st103 ?_
  show Rch p ev below _ T103 (mkF m 5 #[.val (.ref a1), .val (.int p2)] [(.ref ar), (.int p2)])
  refine Rch.go (fun _ q => lenA X103 hx hZ e103 V1 (g := (mkF m 5 #[.val (.ref a1), .val (.int p2)] [(.ref ar), (.int p2)])) rfl rfl (hb hby d6_5) _ q) ?_
  show Rch p ev below _ T103 (mkF m 6 #[.val (.ref a1), .val (.int p2)] [(.int zz), (.int p2)])
  by_cases hc6 : p2 < zz
  · skip
    refine Rch.go (fun _ q => XS.icmpYes X103.here hx rfl (pc0 := 6) (pc' := 33) rfl (hb hby d6_6) rfl (tlt hc6).1 (by decide) (by decide) q) ?_
    show Rch p ev below _ T103 (mkF m 33 #[.val (.ref a1), .val (.int p2)] [])
    exact tail _ _ _ _ _ zz X103 e103 N0 (by decide) (by decide) Z0 C1 hc6
  · skip
    refine Rch.go (fun _ q => XS.icmpNo X103.here hx rfl (hb hby d6_6) rfl (flt hc6).1 q) ?_
    show Rch p ev below _ T103 (mkF m 9 #[.val (.ref a1), .val (.int p2)] [])
    refine Rch.go (fun _ q => XS.aloadN X103.here hx rfl (hb hby d6_9) rfl rfl q) ?_
    show Rch p ev below _ T103 (mkF m 10 #[.val (.ref a1), .val (.int p2)] [(.ref a1)])
    refine Rch.go (fun _ q => XS.aloadN X103.here hx rfl (hb hby d6_10) rfl rfl q) ?_
    show Rch p ev below _ T103 (mkF m 11 #[.val (.ref a1), .val (.int p2)] [(.ref a1), (.ref a1)])
    obtain ⟨T104, X104, e104, st104⟩ := getF X103 hx hZ hown (host := "") (Or.inl (hw _ (List.mem_of_getElem? (i := 10) rfl))) Via.refl e103 F1 (g := (mkF m 11 #[.val (.ref a1), .val (.int p2)] [(.ref a1), (.ref a1)])) rfl rfl (hb hby d6_11)
    refine Rch.go st104 ?_
    show Rch p ev below _ T104 (mkF m 14 #[.val (.ref a1), .val (.int p2)] [(.ref ar), (.ref a1)])
    refine Rch.go (fun _ q => XS.iconst X104.here hx rfl (hb hby d6_14) q) ?_
    show Rch p ev below _ T104 (mkF m 15 #[.val (.ref a1), .val (.int p2)] [(.int (2 : Int32)), (.ref ar), (.ref a1)])
    refine Rch.go (fun _ q => XS.aloadN X104.here hx rfl (hb hby d6_15) rfl rfl q) ?_
    show Rch p ev below _ T104 (mkF m 16 #[.val (.ref a1), .val (.int p2)] [(.ref a1), (.int (2 : Int32)), (.ref ar), (.ref a1)])
    obtain ⟨T105, X105, e105, st105⟩ := getF X104 hx hZ hown (host := "") (Or.inl (hw _ (List.mem_of_getElem? (i := 10) rfl))) Via.refl e104 F1 (g := (mkF m 16 #[.val (.ref a1), .val (.int p2)] [(.ref a1), (.int (2 : Int32)), (.ref ar), (.ref a1)])) rfl rfl (hb hby d6_16)
    refine Rch.go st105 ?_
    show Rch p ev below _ T105 (mkF m 19 #[.val (.ref a1), .val (.int p2)] [(.ref ar), (.int (2 : Int32)), (.ref ar), (.ref a1)])
    refine Rch.go (fun _ q => lenA X105 hx hZ e105 V1 (g := (mkF m 19 #[.val (.ref a1), .val (.int p2)] [(.ref ar), (.int (2 : Int32)), (.ref ar), (.ref a1)])) rfl rfl (hb hby d6_19) _ q) ?_
    show Rch p ev below _ T105 (mkF m 20 #[.val (.ref a1), .val (.int p2)] [(.int zz), (.int (2 : Int32)), (.ref ar), (.ref a1)])
    refine Rch.go (fun _ q => XS.imul X105.here hx rfl (hb hby d6_20) rfl q) ?_
    show Rch p ev below _ T105 (mkF m 21 #[.val (.ref a1), .val (.int p2)] [(.int ((2 : Int32) * zz)), (.ref ar), (.ref a1)])
    refine Rch.go (fun _ q => XS.iloadN X105.here hx rfl (hb hby d6_21) rfl  q) ?_
    show Rch p ev below _ T105 (mkF m 22 #[.val (.ref a1), .val (.int p2)] [(.int p2), (.int ((2 : Int32) * zz)), (.ref ar), (.ref a1)])
    refine Rch.go (fun _ q => XS.iconst X105.here hx rfl (hb hby d6_22) q) ?_
    show Rch p ev below _ T105 (mkF m 23 #[.val (.ref a1), .val (.int p2)] [(.int (1 : Int32)), (.int p2), (.int ((2 : Int32) * zz)), (.ref ar), (.ref a1)])
    refine Rch.go (fun _ q => XS.iadd X105.here hx rfl (hb hby d6_23) rfl q) ?_
    show Rch p ev below _ T105 (mkF m 24 #[.val (.ref a1), .val (.int p2)] [(.int (p2 + (1 : Int32))), (.int ((2 : Int32) * zz)), (.ref ar), (.ref a1)])
    have hge : zz.toInt ≤ p2.toInt := by have q := mt Int32.lt_iff_toInt_lt.mpr hc6; omega
    have m2 := c_imul 2 zz
    rw [kI2] at m2
    have r2 := rng32 ((2 : Int32) * zz)
    have m1 := c_iadd p2 1
    rw [kI1] at m1
    have r1 := rng32 (p2 + (1 : Int32))
    obtain ⟨_, _, ⟨T106, L106, k106, n106⟩, -, X106, ⟨Lc106, hQ106, l106, y106, z106⟩, st106⟩ := Jvm.LawKit.callS X105 hx (y := (⟨"java/lang/Math", "max", "(II)I"⟩ : MethodName)) hown (mvT hZ (hw _ (List.mem_of_getElem? (i := 23) rfl))) (mvT hZ (hw _ (List.mem_of_getElem? (i := 24) rfl))) (mvT hZ (hw _ (List.mem_of_getElem? (i := 25) rfl))) (mvT hZ (hw _ (List.mem_of_getElem? (i := 26) rfl))) (by decide) (backOf (W := 2) (rmmx l Z a0 hw [] ((2 : Int32) * zz) (p2 + (1 : Int32)) h0 n0 Z0) hZ (hw _ (List.mem_of_getElem? (i := 26) rfl)) (hw _ (List.mem_of_getElem? (i := 25) rfl)) (by decide) (by decide)) (g := (mkF m 24 #[.val (.ref a1), .val (.int p2)] [(.int (p2 + (1 : Int32))), (.int ((2 : Int32) * zz)), (.ref ar), (.ref a1)])) rfl (by rw [hml]; rfl) (argsL := [(.int ((2 : Int32) * zz)), (.int (p2 + (1 : Int32)))]) (rest := [(.ref ar), (.ref a1)]) (lenOf own_pd0 rfl) rfl (by show 2 * 0 + _ ≤ _; exact Nat.le_of_eq rfl) (hb hby d6_24) (fun _ _ => ⟨rfl, e105, (by decide : 0 + 0 ≤ _), (by decide : 0 + 0 ≤ _)⟩)
    dsimp only [Pt.U, Pt.locs, Pt.cells, Pt.slots] at X106 l106 y106 z106 st106 hQ106
    subst l106 y106 z106
    obtain ⟨rfl, Nc, ec⟩ := hQ106
    refine Rch.go st106 ?_
    show Rch p ev below _ T106 (mkF m 27 #[.val (.ref a1), .val (.int p2)] [(.int (own_max ((2 : Int32) * zz) (p2 + (1 : Int32)))), (.ref ar), (.ref a1)])
    have N106 := Fr.app N0 Nc
    have e106 := ec
    have hmx : p2.toInt < (own_max ((2 : Int32) * zz) (p2 + (1 : Int32))).toInt ∧ zz.toInt < (own_max ((2 : Int32) * zz) (p2 + (1 : Int32))).toInt ∧ 64 ≤ (own_max ((2 : Int32) * zz) (p2 + (1 : Int32))).toInt ∧ (own_max ((2 : Int32) * zz) (p2 + (1 : Int32))).toInt ≤ 510 := by unfold own_max; split <;> rename_i hh <;> rw [Int32.lt_iff_toInt_lt] at hh <;> omega
    obtain ⟨nl, g_nl⟩ : ∃ q, q = (own_max ((2 : Int32) * zz) (p2 + (1 : Int32))) := ⟨_, rfl⟩
    rw [← g_nl]
    show Rch p ev below _ T106 (mkF m 27 #[.val (.ref a1), .val (.int p2)] [(.int nl), (.ref ar), (.ref a1)])
    rw [← g_nl] at hmx
    obtain ⟨_, _, ⟨T107, L107, k107, n107⟩, -, X107, ⟨Lc107, hQ107, l107, y107, z107⟩, st107⟩ := Jvm.LawKit.callS X106 hx (y := (⟨"java/util/Arrays", "copyOf", "([JI)[J"⟩ : MethodName)) hown (mvT hZ (hw _ (List.mem_of_getElem? (i := 27) rfl))) (mvT hZ (hw _ (List.mem_of_getElem? (i := 28) rfl))) (mvT hZ (hw _ (List.mem_of_getElem? (i := 29) rfl))) (mvT hZ (hw _ (List.mem_of_getElem? (i := 30) rfl))) (by decide) (backOf (W := 1) (rmcp l Z a0 hw [] ar nl k1 zz vs h0 n0 Z0 V1 hl1 (by omega) hmx.2.1 hmx.2.2.2) hZ (hw _ (List.mem_of_getElem? (i := 30) rfl)) (hw _ (List.mem_of_getElem? (i := 29) rfl)) (by decide) (by decide)) (g := (mkF m 27 #[.val (.ref a1), .val (.int p2)] [(.int nl), (.ref ar), (.ref a1)])) rfl (by rw [hml]; rfl) (argsL := [(.ref ar), (.int nl)]) (rest := [(.ref a1)]) (lenOf own_pd1 rfl) rfl (by show 2 * 0 + _ ≤ _; exact Nat.le_of_eq rfl) (hb hby d6_27) (fun _ _ => ⟨rfl, e106, (by decide : 0 + 1 ≤ _), (by decide : 0 + 510 ≤ _)⟩)
    dsimp only [Pt.U, Pt.locs, Pt.cells, Pt.slots] at X107 l107 y107 z107 st107 hQ107
    subst l107 y107 z107
    obtain ⟨bb, kb, us, rfl, Nc, gb, gbb, Zc, Kc, Vc, hlc, huc⟩ := hQ107
    refine Rch.go st107 ?_
    show Rch p ev below _ T107 (mkF m 30 #[.val (.ref a1), .val (.int p2)] [(.ref bb), (.ref a1)])
    have N107 := Fr.app N106 Nc
    have Fx := F1.keep Kc nin0
    have Ex := E1.keep Kc
    have hnb : bb ≠ a1 := (Nat.ne_of_lt (Nat.lt_of_lt_of_le E1.lt gbb)).symm
    obtain ⟨T108, h108, X108, e108, W108, st108⟩ := putF X107 hx hZ hown (host := "") (Or.inl (hw _ (List.mem_of_getElem? (i := 10) rfl))) Via.refl rfl Fx Ex (Or.inl (hw _ (List.mem_of_getElem? (i := 11) rfl))) (hw _ (List.mem_of_getElem? (i := 1) rfl)) (ty := (.array .long)) (by decide) rfl rfl (g := (mkF m 30 #[.val (.ref a1), .val (.int p2)] [(.ref bb), (.ref a1)])) rfl rfl (hb hby d6_30)
    have N108 := Fr.snoc X108 N107 gc
    have Z108 : n0 ≤ h108.size := by rw [W108.size]; exact Zc
    refine Rch.go st108 ?_
    show Rch p ev below _ T108 (mkF m 33 #[.val (.ref a1), .val (.int p2)] [])
    have Fy := Fx.same W108
    have Ey := Ex.wr W108
    have Vy := Vc.other W108 hnb
    exact tail _ _ _ _ _ nl X108 e108 N108 (by decide) (by decide) Z108 ⟨bb, kb, us, Ey, Fy, Vy, hlc, gb, gc, hmx.2.2.1, hmx.2.2.2, fun i => (huc i).trans (hv i), fun i hi => hz i (by have nn := own_nat nl (by omega); rw [hl1]; rw [hlc] at hi; omega)⟩ (Int32.lt_iff_toInt_lt.mpr hmx.1)
theorem own_pn6 : plainFor x = true := by first | exact plainFor_of_name (by first | (simp [plainName, overriddenIn]; done) | decide +kernel) | decide +kernel
theorem own_pd5 : parseMethodDescriptor "(IIIII)Z" = some ⟨[.int, .int, .int, .int, .int], some .boolean⟩ := by decide +kernel
theorem own_ef7 (m : MethodId) (x0 : Int32) (x1 : Int32) (x2 : Int32) (x3 : Int32) (x4 : Int32) : entryFrame m #[(.int x0), (.int x1), (.int x2), (.int x3), (.int x4)] maxLocals = mkF m 0 #[.val (.int x0), .val (.int x1), .val (.int x2), .val (.int x3), .val (.int x4), .unset, .unset, .unset, .unset, .unset, .unset, .unset, .unset, .unset, .unset, .unset] [] := by first | (simp [entryFrame, mkF, argsToLocals, Value.category, maxLocals]; done) | rfl
def Qrm0 (Z : State) (p1 : Int32) (p2 : Int32) (p3 : Int32) (p4 : Int32) (p5 : Int32)  (h0 : Heap) (n0 : Nat) : Option Value → Heap → List Loc → Prop := fun v h L => v = some (.int 1) ∧ Fr n0 L
set_option maxRecDepth 65536 in
set_option maxHeartbeats 40000000 in
theorem rm0 (l : Launch) (Z : State) (a0 : Array Value) (hw : ∀ d ∈ tables_1, d.before a0 Z = true) (ws : List Jvm.Cond) (p1 : Int32) (p2 : Int32) (p3 : Int32) (p4 : Int32) (p5 : Int32)  (h0 : Heap) (n0 : Nat) (Z0 : n0 ≤ h0.size)  :
    MetFree l x (head1 (Jvm.Cond.code x code maxLocals ret :: ws) room_1) (fun a U => a = #[(.int p1), (.int p2), (.int p3), (.int p4), (.int p5)] ∧ Z.Warmed39 U.vm ∧ U.heap = h0) (fun _ _ _ _ _ => True) (fun _ U o U' => ∃ v L, o = .returned v ∧ (Qrm0 Z p1 p2 p3 p4 p5  h0 n0) v U'.heap L ∧ FrameEnd U o U' L room_1.cells room_1.slots) := by
  refine MetFree.of_bodySF own_pn6 hisR ?_
  intro p ev s m args below meth c s₁ Bd hml0 hP hK
  obtain ⟨rfl, hZ, hh⟩ := hP
  have hx := Bd.exec
  have hby := Bd.bytes
  have hlk := Bd.notSynchronized
  have hml : c.maxLocals = 16 := hml0
  have hown : s.vm.findClass "com/example/pocket_reasoner/pocketreasoner/tableau/ConceptCountsOfPinLaw" = some m.cls := findClass_of_methodNamed Bd.named
  have hnm := (name_of_methodNamed Bd.named Bd.method).1
  have X0 : Stand p l ev room_1 s m #[(.int p1), (.int p2), (.int p3), (.int p4), (.int p5)] below meth c s₁ [] 0 0 := Stand.of_body Bd
  have e0 : s₁.heap = h0 := by rw [← hh, Bd.state]; rfl
  have N0 := Fr.nil n0
  refine Rch.entry (G := (EndQ (Qrm0 Z p1 p2 p3 p4 p5  h0 n0) s room_1.cells room_1.slots)) (own_ef7 m p1 p2 p3 p4 p5) ?_
  have hbool : ∀ x : Int32, nar .boolean x = x &&& 1 := fun _ => rfl
  show Rch p ev below _ s₁ (mkF m 0 #[.val (.int p1), .val (.int p2), .val (.int p3), .val (.int p4), .val (.int p5), .unset, .unset, .unset, .unset, .unset, .unset, .unset, .unset, .unset, .unset, .unset] [])
  have ha := c_and p1 255 (by decide)
  have hb' := c_and p2 255 (by decide)
  have hc' := c_and p3 255 (by decide)
  have hd' := c_and p4 2147483647 (by decide)
  have k255 : (255 : Int32).toInt = 255 := rfl
  rw [k255] at ha hb' hc'
  obtain ⟨ca, g_ca⟩ : ∃ q, q = p1 &&& (255 : Int32) := ⟨_, rfl⟩
  obtain ⟨cb, g_cb⟩ : ∃ q, q = p2 &&& (255 : Int32) := ⟨_, rfl⟩
  obtain ⟨cc, g_cc⟩ : ∃ q, q = p3 &&& (255 : Int32) := ⟨_, rfl⟩
  rw [← g_ca] at ha
  rw [← g_cb] at hb'
  rw [← g_cc] at hc'
  have tail0 : ∀ (qq : Int32) (hqq : 0 ≤ qq.toInt), Rch p ev below (EndQ (Qrm0 Z p1 p2 p3 p4 p5  h0 n0) s room_1.cells room_1.slots) s₁ (mkF m 79 #[.val (.int p1), .val (.int p2), .val (.int p3), .val (.int p4), .val (.int p5), .val (.int ca), .val (.int cb), .val (.int cc), .val (.int (0 : Int32)), .val (.int (p5 &&& (3 : Int32))), .val (.int qq), .unset, .unset, .unset, .unset, .unset] []) := by
    intro qq hqq
    show Rch p ev below _ s₁ (mkF m 79 #[.val (.int p1), .val (.int p2), .val (.int p3), .val (.int p4), .val (.int p5), .val (.int ca), .val (.int cb), .val (.int cc), .val (.int (0 : Int32)), .val (.int (p5 &&& (3 : Int32))), .val (.int qq), .unset, .unset, .unset, .unset, .unset] [])
    obtain ⟨T101, h101, X101, e101, E101, A101, D101, -, st101⟩ := newO X0 hx hZ hown (hw _ (List.mem_of_getElem? (i := 0) rfl)) (hw _ (List.mem_of_getElem? (i := 1) rfl)) (hw _ (List.mem_of_getElem? (i := 2) rfl)) e0 (g := (mkF m 79 #[.val (.int p1), .val (.int p2), .val (.int p3), .val (.int p4), .val (.int p5), .val (.int ca), .val (.int cb), .val (.int cc), .val (.int (0 : Int32)), .val (.int (p5 &&& (3 : Int32))), .val (.int qq), .unset, .unset, .unset, .unset, .unset] [])) rfl (hb hby at_79) (by decide) (by decide)
    obtain ⟨co, g101⟩ : ∃ q, q = Array.size h0 := ⟨_, rfl⟩
    rw [← g101] at A101 D101 st101
    have F_counts_101 : Fld Z h101 co "com/example/pocket_reasoner/pocketreasoner/tableau/ConceptCounts" "counts" "[J" .null := D101 (Or.inl (hw _ (List.mem_of_getElem? (i := 11) rfl))) (ty := (.array .long)) (by decide)
    have le_co : n0 ≤ co := by rw [g101]; exact Z0
    have Z101 : n0 ≤ h101.size := Nat.le_trans Z0 E101.1
    refine Rch.go st101 ?_
    show Rch p ev below _ T101 (mkF m 82 #[.val (.int p1), .val (.int p2), .val (.int p3), .val (.int p4), .val (.int p5), .val (.int ca), .val (.int cb), .val (.int cc), .val (.int (0 : Int32)), .val (.int (p5 &&& (3 : Int32))), .val (.int qq), .unset, .unset, .unset, .unset, .unset] [(.ref co)])
    refine Rch.go (fun _ q => XS.dup X101.here hx rfl (hb hby at_82) rfl rfl q) ?_
    show Rch p ev below _ T101 (mkF m 83 #[.val (.int p1), .val (.int p2), .val (.int p3), .val (.int p4), .val (.int p5), .val (.int ca), .val (.int cb), .val (.int cc), .val (.int (0 : Int32)), .val (.int (p5 &&& (3 : Int32))), .val (.int qq), .unset, .unset, .unset, .unset, .unset] [(.ref co), (.ref co)])
    obtain ⟨_, _, ⟨T102, L102, k102, n102⟩, -, X102, ⟨Lc102, hQ102, l102, y102, z102⟩, st102⟩ := X101.specialBack hx (y := (⟨"com/example/pocket_reasoner/pocketreasoner/tableau/ConceptCounts", "<init>", "()V"⟩ : MethodName)) rfl hown (mvT hZ (hw _ (List.mem_of_getElem? (i := 3) rfl))) (mvT hZ (hw _ (List.mem_of_getElem? (i := 4) rfl))) (mvT hZ (hw _ (List.mem_of_getElem? (i := 5) rfl))) (by decide) (backOf (W := 1) (rm4 l Z a0 hw [] co h101 n0 Z101 F_counts_101 A101 le_co) hZ (hw _ (List.mem_of_getElem? (i := 5) rfl)) (hw _ (List.mem_of_getElem? (i := 2) rfl)) (by decide) (by decide)) (g := (mkF m 83 #[.val (.int p1), .val (.int p2), .val (.int p3), .val (.int p4), .val (.int p5), .val (.int ca), .val (.int cb), .val (.int cc), .val (.int (0 : Int32)), .val (.int (p5 &&& (3 : Int32))), .val (.int qq), .unset, .unset, .unset, .unset, .unset] [(.ref co), (.ref co)])) rfl (by rw [hml]; rfl) (Steps.refl _) (a := co) (argsL := []) (rest := [(.ref co)]) (lenOf own_pd2 rfl) rfl (by show 2 * 0 + _ ≤ _; exact Nat.le_of_eq rfl) (hb hby at_83) (fun _ _ => ⟨rfl, e101, (by decide : 1 + 1 ≤ _), (by decide : 1 + 64 ≤ _)⟩)
    dsimp only [Pt.U, Pt.locs, Pt.cells, Pt.slots] at X102 l102 y102 z102 st102 hQ102
    subst l102 y102 z102
    obtain ⟨rfl, Nc, Zc, Cc⟩ := hQ102
    refine Rch.jump st102 ?_
    show Rch p ev below _ T102 (mkF m 86 #[.val (.int p1), .val (.int p2), .val (.int p3), .val (.int p4), .val (.int p5), .val (.int ca), .val (.int cb), .val (.int cc), .val (.int (0 : Int32)), .val (.int (p5 &&& (3 : Int32))), .val (.int qq), .unset, .unset, .unset, .unset, .unset] [(.ref co)])
    have N102 := Fr.app N0 Nc
    refine Rch.go (fun _ q => XS.astore X102.here hx rfl (hb hby at_86) rfl rfl (l' := #[.val (.int p1), .val (.int p2), .val (.int p3), .val (.int p4), .val (.int p5), .val (.int ca), .val (.int cb), .val (.int cc), .val (.int (0 : Int32)), .val (.int (p5 &&& (3 : Int32))), .val (.int qq), .val (.ref co), .unset, .unset, .unset, .unset]) rfl q) ?_
    show Rch p ev below _ T102 (mkF m 88 #[.val (.int p1), .val (.int p2), .val (.int p3), .val (.int p4), .val (.int p5), .val (.int ca), .val (.int cb), .val (.int cc), .val (.int (0 : Int32)), .val (.int (p5 &&& (3 : Int32))), .val (.int qq), .val (.ref co), .unset, .unset, .unset, .unset] [])
    refine Rch.go (fun _ q => XS.aload X102.here hx rfl (hb hby at_88) rfl rfl q) ?_
    show Rch p ev below _ T102 (mkF m 90 #[.val (.int p1), .val (.int p2), .val (.int p3), .val (.int p4), .val (.int p5), .val (.int ca), .val (.int cb), .val (.int cc), .val (.int (0 : Int32)), .val (.int (p5 &&& (3 : Int32))), .val (.int qq), .val (.ref co), .unset, .unset, .unset, .unset] [(.ref co)])
    refine Rch.go (fun _ q => XS.iload X102.here hx rfl (hb hby at_90) rfl  q) ?_
    show Rch p ev below _ T102 (mkF m 92 #[.val (.int p1), .val (.int p2), .val (.int p3), .val (.int p4), .val (.int p5), .val (.int ca), .val (.int cb), .val (.int cc), .val (.int (0 : Int32)), .val (.int (p5 &&& (3 : Int32))), .val (.int qq), .val (.ref co), .unset, .unset, .unset, .unset] [(.int qq), (.ref co)])
    obtain ⟨cq103, kq103, q103a, q103b, q103c⟩ := isOf hZ rfl (own_exa Cc)
    obtain ⟨_, _, ⟨T103, L103, k103, n103⟩, -, X103, ⟨Lc103, hQ103, l103, y103, z103⟩, st103⟩ := X102.virtualBack hx (y := (⟨"com/example/pocket_reasoner/pocketreasoner/tableau/ConceptCounts", "of", "(I)J"⟩ : MethodName)) (z := (⟨"com/example/pocket_reasoner/pocketreasoner/tableau/ConceptCounts", "of", "(I)J"⟩ : MethodName)) hown (mvT hZ (hw _ (List.mem_of_getElem? (i := 12) rfl))) (mvT hZ (hw _ (List.mem_of_getElem? (i := 13) rfl))) (notFace_of_selects (args := #[]) (mvT hZ (hw _ (List.mem_of_getElem? (i := 15) rfl)))) (mvT hZ (hw _ (List.mem_of_getElem? (i := 15) rfl))) (mvT hZ (hw _ (List.mem_of_getElem? (i := 14) rfl))) (by decide) (backOf (W := 0) (rm5 l Z a0 hw [] co qq 64 (fun _ => (0 : Int64)) T102.heap n0 Zc Cc hqq) hZ (hw _ (List.mem_of_getElem? (i := 16) rfl)) (hw _ (List.mem_of_getElem? (i := 2) rfl)) (by decide) (by decide)) q103a q103c (g := (mkF m 92 #[.val (.int p1), .val (.int p2), .val (.int p3), .val (.int p4), .val (.int p5), .val (.int ca), .val (.int cb), .val (.int cc), .val (.int (0 : Int32)), .val (.int (p5 &&& (3 : Int32))), .val (.int qq), .val (.ref co), .unset, .unset, .unset, .unset] [(.int qq), (.ref co)])) rfl (by rw [hml]; rfl) (Steps.refl _) (argsL := [(.int qq)]) (rest := []) (lenOf own_pd3 rfl) rfl (by show 2 * 0 + _ ≤ _; exact Nat.le_of_eq rfl) (hb hby at_92) (fun _ _ => ⟨rfl, rfl, (by decide : 2 + 0 ≤ _), (by decide : 65 + 0 ≤ _)⟩)
    dsimp only [Pt.U, Pt.locs, Pt.cells, Pt.slots] at X103 l103 y103 z103 st103 hQ103
    subst l103 y103 z103
    obtain ⟨rfl, Nc, ec⟩ := hQ103
    refine Rch.jump st103 ?_
    show Rch p ev below _ T103 (mkF m 95 #[.val (.int p1), .val (.int p2), .val (.int p3), .val (.int p4), .val (.int p5), .val (.int ca), .val (.int cb), .val (.int cc), .val (.int (0 : Int32)), .val (.int (p5 &&& (3 : Int32))), .val (.int qq), .val (.ref co), .unset, .unset, .unset, .unset] [(.long ((fun _ => (0 : Int64)) qq.toNatClampNeg))])
    have N103 := Fr.app N102 Nc
    have e103 := ec
    refine Rch.go (fun _ q => XS.lstore X103.here hx rfl (hb hby at_95) rfl (l' := #[.val (.int p1), .val (.int p2), .val (.int p3), .val (.int p4), .val (.int p5), .val (.int ca), .val (.int cb), .val (.int cc), .val (.int (0 : Int32)), .val (.int (p5 &&& (3 : Int32))), .val (.int qq), .val (.ref co), .val (.long ((fun _ => (0 : Int64)) qq.toNatClampNeg)), .second, .unset, .unset]) rfl q) ?_
    show Rch p ev below _ T103 (mkF m 97 #[.val (.int p1), .val (.int p2), .val (.int p3), .val (.int p4), .val (.int p5), .val (.int ca), .val (.int cb), .val (.int cc), .val (.int (0 : Int32)), .val (.int (p5 &&& (3 : Int32))), .val (.int qq), .val (.ref co), .val (.long ((fun _ => (0 : Int64)) qq.toNatClampNeg)), .second, .unset, .unset] [])
    refine Rch.go (fun _ q => XS.aload X103.here hx rfl (hb hby at_97) rfl rfl q) ?_
    show Rch p ev below _ T103 (mkF m 99 #[.val (.int p1), .val (.int p2), .val (.int p3), .val (.int p4), .val (.int p5), .val (.int ca), .val (.int cb), .val (.int cc), .val (.int (0 : Int32)), .val (.int (p5 &&& (3 : Int32))), .val (.int qq), .val (.ref co), .val (.long ((fun _ => (0 : Int64)) qq.toNatClampNeg)), .second, .unset, .unset] [(.ref co)])
    refine Rch.go (fun _ q => XS.iload X103.here hx rfl (hb hby at_99) rfl  q) ?_
    show Rch p ev below _ T103 (mkF m 101 #[.val (.int p1), .val (.int p2), .val (.int p3), .val (.int p4), .val (.int p5), .val (.int ca), .val (.int cb), .val (.int cc), .val (.int (0 : Int32)), .val (.int (p5 &&& (3 : Int32))), .val (.int qq), .val (.ref co), .val (.long ((fun _ => (0 : Int64)) qq.toNatClampNeg)), .second, .unset, .unset] [(.int ca), (.ref co)])
    obtain ⟨cq104, kq104, q104a, q104b, q104c⟩ := isOf hZ e103 (own_exa Cc)
    obtain ⟨_, _, ⟨T104, L104, k104, n104⟩, -, X104, ⟨Lc104, hQ104, l104, y104, z104⟩, st104⟩ := X103.virtualBack hx (y := (⟨"com/example/pocket_reasoner/pocketreasoner/tableau/ConceptCounts", "increment", "(I)V"⟩ : MethodName)) (z := (⟨"com/example/pocket_reasoner/pocketreasoner/tableau/ConceptCounts", "increment", "(I)V"⟩ : MethodName)) hown (mvT hZ (hw _ (List.mem_of_getElem? (i := 17) rfl))) (mvT hZ (hw _ (List.mem_of_getElem? (i := 18) rfl))) (notFace_of_selects (args := #[]) (mvT hZ (hw _ (List.mem_of_getElem? (i := 20) rfl)))) (mvT hZ (hw _ (List.mem_of_getElem? (i := 20) rfl))) (mvT hZ (hw _ (List.mem_of_getElem? (i := 19) rfl))) (by decide) (backOf (W := 0) (rm6 l Z a0 hw [] co ca 64 (fun _ => (0 : Int64)) T102.heap n0 Zc Cc ha.1 ha.2) hZ (hw _ (List.mem_of_getElem? (i := 21) rfl)) (hw _ (List.mem_of_getElem? (i := 2) rfl)) (by decide) (by decide)) q104a q104c (g := (mkF m 101 #[.val (.int p1), .val (.int p2), .val (.int p3), .val (.int p4), .val (.int p5), .val (.int ca), .val (.int cb), .val (.int cc), .val (.int (0 : Int32)), .val (.int (p5 &&& (3 : Int32))), .val (.int qq), .val (.ref co), .val (.long ((fun _ => (0 : Int64)) qq.toNatClampNeg)), .second, .unset, .unset] [(.int ca), (.ref co)])) rfl (by rw [hml]; rfl) (Steps.refl _) (argsL := [(.int ca)]) (rest := []) (lenOf own_pd4 rfl) rfl (by show 2 * 0 + _ ≤ _; exact Nat.le_of_eq rfl) (hb hby at_101) (fun _ _ => ⟨rfl, e103, (by decide : 2 + 1 ≤ _), (by decide : 65 + 510 ≤ _)⟩)
    dsimp only [Pt.U, Pt.locs, Pt.cells, Pt.slots] at X104 l104 y104 z104 st104 hQ104
    subst l104 y104 z104
    obtain ⟨rfl, Nc104, Zc104, zc104, Cc104⟩ := hQ104
    refine Rch.jump st104 ?_
    show Rch p ev below _ T104 (mkF m 104 #[.val (.int p1), .val (.int p2), .val (.int p3), .val (.int p4), .val (.int p5), .val (.int ca), .val (.int cb), .val (.int cc), .val (.int (0 : Int32)), .val (.int (p5 &&& (3 : Int32))), .val (.int qq), .val (.ref co), .val (.long ((fun _ => (0 : Int64)) qq.toNatClampNeg)), .second, .unset, .unset] [])
    have N104 := Fr.app N103 Nc104
    refine Rch.go (fun _ q => XS.aload X104.here hx rfl (hb hby at_104) rfl rfl q) ?_
    show Rch p ev below _ T104 (mkF m 106 #[.val (.int p1), .val (.int p2), .val (.int p3), .val (.int p4), .val (.int p5), .val (.int ca), .val (.int cb), .val (.int cc), .val (.int (0 : Int32)), .val (.int (p5 &&& (3 : Int32))), .val (.int qq), .val (.ref co), .val (.long ((fun _ => (0 : Int64)) qq.toNatClampNeg)), .second, .unset, .unset] [(.ref co)])
    refine Rch.go (fun _ q => XS.iload X104.here hx rfl (hb hby at_106) rfl  q) ?_
    show Rch p ev below _ T104 (mkF m 108 #[.val (.int p1), .val (.int p2), .val (.int p3), .val (.int p4), .val (.int p5), .val (.int ca), .val (.int cb), .val (.int cc), .val (.int (0 : Int32)), .val (.int (p5 &&& (3 : Int32))), .val (.int qq), .val (.ref co), .val (.long ((fun _ => (0 : Int64)) qq.toNatClampNeg)), .second, .unset, .unset] [(.int cb), (.ref co)])
    obtain ⟨cq105, kq105, q105a, q105b, q105c⟩ := isOf hZ rfl (own_exa Cc104)
    obtain ⟨_, _, ⟨T105, L105, k105, n105⟩, -, X105, ⟨Lc105, hQ105, l105, y105, z105⟩, st105⟩ := X104.virtualBack hx (y := (⟨"com/example/pocket_reasoner/pocketreasoner/tableau/ConceptCounts", "increment", "(I)V"⟩ : MethodName)) (z := (⟨"com/example/pocket_reasoner/pocketreasoner/tableau/ConceptCounts", "increment", "(I)V"⟩ : MethodName)) hown (mvT hZ (hw _ (List.mem_of_getElem? (i := 17) rfl))) (mvT hZ (hw _ (List.mem_of_getElem? (i := 18) rfl))) (notFace_of_selects (args := #[]) (mvT hZ (hw _ (List.mem_of_getElem? (i := 20) rfl)))) (mvT hZ (hw _ (List.mem_of_getElem? (i := 20) rfl))) (mvT hZ (hw _ (List.mem_of_getElem? (i := 19) rfl))) (by decide) (backOf (W := 0) (rm6 l Z a0 hw [] co cb zc104 (fun i => if i = ca.toNatClampNeg then (fun _ => (0 : Int64)) i + 1 else (fun _ => (0 : Int64)) i) T104.heap n0 Zc104 Cc104 hb'.1 hb'.2) hZ (hw _ (List.mem_of_getElem? (i := 21) rfl)) (hw _ (List.mem_of_getElem? (i := 2) rfl)) (by decide) (by decide)) q105a q105c (g := (mkF m 108 #[.val (.int p1), .val (.int p2), .val (.int p3), .val (.int p4), .val (.int p5), .val (.int ca), .val (.int cb), .val (.int cc), .val (.int (0 : Int32)), .val (.int (p5 &&& (3 : Int32))), .val (.int qq), .val (.ref co), .val (.long ((fun _ => (0 : Int64)) qq.toNatClampNeg)), .second, .unset, .unset] [(.int cb), (.ref co)])) rfl (by rw [hml]; rfl) (Steps.refl _) (argsL := [(.int cb)]) (rest := []) (lenOf own_pd4 rfl) rfl (by show 2 * 0 + _ ≤ _; exact Nat.le_of_eq rfl) (hb hby at_108) (fun _ _ => ⟨rfl, rfl, (by decide : 3 + 1 ≤ _), (by decide : 575 + 510 ≤ _)⟩)
    dsimp only [Pt.U, Pt.locs, Pt.cells, Pt.slots] at X105 l105 y105 z105 st105 hQ105
    subst l105 y105 z105
    obtain ⟨rfl, Nc105, Zc105, zc105, Cc105⟩ := hQ105
    refine Rch.jump st105 ?_
    show Rch p ev below _ T105 (mkF m 111 #[.val (.int p1), .val (.int p2), .val (.int p3), .val (.int p4), .val (.int p5), .val (.int ca), .val (.int cb), .val (.int cc), .val (.int (0 : Int32)), .val (.int (p5 &&& (3 : Int32))), .val (.int qq), .val (.ref co), .val (.long ((fun _ => (0 : Int64)) qq.toNatClampNeg)), .second, .unset, .unset] [])
    have N105 := Fr.app N104 Nc105
    refine Rch.go (fun _ q => XS.iload X105.here hx rfl (hb hby at_111) rfl  q) ?_
    show Rch p ev below _ T105 (mkF m 113 #[.val (.int p1), .val (.int p2), .val (.int p3), .val (.int p4), .val (.int p5), .val (.int ca), .val (.int cb), .val (.int cc), .val (.int (0 : Int32)), .val (.int (p5 &&& (3 : Int32))), .val (.int qq), .val (.ref co), .val (.long ((fun _ => (0 : Int64)) qq.toNatClampNeg)), .second, .unset, .unset] [(.int (0 : Int32))])
    refine Rch.go (fun _ q => XS.ifYes X105.here hx rfl (pc0 := 113) (pc' := 123) rfl (hb hby at_113) rfl ((if0 _ _).trans (teq (by decide)).1) (by decide) (by decide) q) ?_
    show Rch p ev below _ T105 (mkF m 123 #[.val (.int p1), .val (.int p2), .val (.int p3), .val (.int p4), .val (.int p5), .val (.int ca), .val (.int cb), .val (.int cc), .val (.int (0 : Int32)), .val (.int (p5 &&& (3 : Int32))), .val (.int qq), .val (.ref co), .val (.long ((fun _ => (0 : Int64)) qq.toNatClampNeg)), .second, .unset, .unset] [])
    refine Rch.go (fun _ q => XS.iload X105.here hx rfl (hb hby at_123) rfl  q) ?_
    show Rch p ev below _ T105 (mkF m 125 #[.val (.int p1), .val (.int p2), .val (.int p3), .val (.int p4), .val (.int p5), .val (.int ca), .val (.int cb), .val (.int cc), .val (.int (0 : Int32)), .val (.int (p5 &&& (3 : Int32))), .val (.int qq), .val (.ref co), .val (.long ((fun _ => (0 : Int64)) qq.toNatClampNeg)), .second, .unset, .unset] [(.int qq)])
    refine Rch.go (fun _ q => XS.iload X105.here hx rfl (hb hby at_125) rfl  q) ?_
    show Rch p ev below _ T105 (mkF m 127 #[.val (.int p1), .val (.int p2), .val (.int p3), .val (.int p4), .val (.int p5), .val (.int ca), .val (.int cb), .val (.int cc), .val (.int (0 : Int32)), .val (.int (p5 &&& (3 : Int32))), .val (.int qq), .val (.ref co), .val (.long ((fun _ => (0 : Int64)) qq.toNatClampNeg)), .second, .unset, .unset] [(.int ca), (.int qq)])
    by_cases hc127 : qq = ca
    · skip
      refine Rch.go (fun _ q => XS.icmpNo X105.here hx rfl (hb hby at_127) rfl (teq hc127).2 q) ?_
      show Rch p ev below _ T105 (mkF m 130 #[.val (.int p1), .val (.int p2), .val (.int p3), .val (.int p4), .val (.int p5), .val (.int ca), .val (.int cb), .val (.int cc), .val (.int (0 : Int32)), .val (.int (p5 &&& (3 : Int32))), .val (.int qq), .val (.ref co), .val (.long ((fun _ => (0 : Int64)) qq.toNatClampNeg)), .second, .unset, .unset] [])
      refine Rch.go (fun _ q => XS.lconst X105.here hx rfl (hb hby at_130) q) ?_
      show Rch p ev below _ T105 (mkF m 131 #[.val (.int p1), .val (.int p2), .val (.int p3), .val (.int p4), .val (.int p5), .val (.int ca), .val (.int cb), .val (.int cc), .val (.int (0 : Int32)), .val (.int (p5 &&& (3 : Int32))), .val (.int qq), .val (.ref co), .val (.long ((fun _ => (0 : Int64)) qq.toNatClampNeg)), .second, .unset, .unset] [(.long (1 : Int64))])
      refine Rch.go (fun _ q => XS.goto X105.here hx rfl (pc0 := 131) (pc' := 135) rfl (hb hby at_131) (by decide) (by decide) q) ?_
      show Rch p ev below _ T105 (mkF m 135 #[.val (.int p1), .val (.int p2), .val (.int p3), .val (.int p4), .val (.int p5), .val (.int ca), .val (.int cb), .val (.int cc), .val (.int (0 : Int32)), .val (.int (p5 &&& (3 : Int32))), .val (.int qq), .val (.ref co), .val (.long ((fun _ => (0 : Int64)) qq.toNatClampNeg)), .second, .unset, .unset] [(.long (1 : Int64))])
      refine Rch.go (fun _ q => XS.iload X105.here hx rfl (hb hby at_135) rfl  q) ?_
      show Rch p ev below _ T105 (mkF m 137 #[.val (.int p1), .val (.int p2), .val (.int p3), .val (.int p4), .val (.int p5), .val (.int ca), .val (.int cb), .val (.int cc), .val (.int (0 : Int32)), .val (.int (p5 &&& (3 : Int32))), .val (.int qq), .val (.ref co), .val (.long ((fun _ => (0 : Int64)) qq.toNatClampNeg)), .second, .unset, .unset] [(.int qq), (.long (1 : Int64))])
      refine Rch.go (fun _ q => XS.iload X105.here hx rfl (hb hby at_137) rfl  q) ?_
      show Rch p ev below _ T105 (mkF m 139 #[.val (.int p1), .val (.int p2), .val (.int p3), .val (.int p4), .val (.int p5), .val (.int ca), .val (.int cb), .val (.int cc), .val (.int (0 : Int32)), .val (.int (p5 &&& (3 : Int32))), .val (.int qq), .val (.ref co), .val (.long ((fun _ => (0 : Int64)) qq.toNatClampNeg)), .second, .unset, .unset] [(.int cb), (.int qq), (.long (1 : Int64))])
      by_cases hc139 : qq = cb
      · skip
        refine Rch.go (fun _ q => XS.icmpNo X105.here hx rfl (hb hby at_139) rfl (teq hc139).2 q) ?_
        show Rch p ev below _ T105 (mkF m 142 #[.val (.int p1), .val (.int p2), .val (.int p3), .val (.int p4), .val (.int p5), .val (.int ca), .val (.int cb), .val (.int cc), .val (.int (0 : Int32)), .val (.int (p5 &&& (3 : Int32))), .val (.int qq), .val (.ref co), .val (.long ((fun _ => (0 : Int64)) qq.toNatClampNeg)), .second, .unset, .unset] [(.long (1 : Int64))])
        refine Rch.go (fun _ q => XS.lconst X105.here hx rfl (hb hby at_142) q) ?_
        show Rch p ev below _ T105 (mkF m 143 #[.val (.int p1), .val (.int p2), .val (.int p3), .val (.int p4), .val (.int p5), .val (.int ca), .val (.int cb), .val (.int cc), .val (.int (0 : Int32)), .val (.int (p5 &&& (3 : Int32))), .val (.int qq), .val (.ref co), .val (.long ((fun _ => (0 : Int64)) qq.toNatClampNeg)), .second, .unset, .unset] [(.long (1 : Int64)), (.long (1 : Int64))])
        refine Rch.go (fun _ q => XS.goto X105.here hx rfl (pc0 := 143) (pc' := 147) rfl (hb hby at_143) (by decide) (by decide) q) ?_
        show Rch p ev below _ T105 (mkF m 147 #[.val (.int p1), .val (.int p2), .val (.int p3), .val (.int p4), .val (.int p5), .val (.int ca), .val (.int cb), .val (.int cc), .val (.int (0 : Int32)), .val (.int (p5 &&& (3 : Int32))), .val (.int qq), .val (.ref co), .val (.long ((fun _ => (0 : Int64)) qq.toNatClampNeg)), .second, .unset, .unset] [(.long (1 : Int64)), (.long (1 : Int64))])
        refine Rch.go (fun _ q => XS.ladd X105.here hx rfl (hb hby at_147) rfl q) ?_
        show Rch p ev below _ T105 (mkF m 148 #[.val (.int p1), .val (.int p2), .val (.int p3), .val (.int p4), .val (.int p5), .val (.int ca), .val (.int cb), .val (.int cc), .val (.int (0 : Int32)), .val (.int (p5 &&& (3 : Int32))), .val (.int qq), .val (.ref co), .val (.long ((fun _ => (0 : Int64)) qq.toNatClampNeg)), .second, .unset, .unset] [(.long ((1 : Int64) + (1 : Int64)))])
        refine Rch.go (fun _ q => XS.iload X105.here hx rfl (hb hby at_148) rfl  q) ?_
        show Rch p ev below _ T105 (mkF m 150 #[.val (.int p1), .val (.int p2), .val (.int p3), .val (.int p4), .val (.int p5), .val (.int ca), .val (.int cb), .val (.int cc), .val (.int (0 : Int32)), .val (.int (p5 &&& (3 : Int32))), .val (.int qq), .val (.ref co), .val (.long ((fun _ => (0 : Int64)) qq.toNatClampNeg)), .second, .unset, .unset] [(.int (0 : Int32)), (.long ((1 : Int64) + (1 : Int64)))])
        refine Rch.go (fun _ q => XS.ifYes X105.here hx rfl (pc0 := 150) (pc' := 164) rfl (hb hby at_150) rfl ((if0 _ _).trans (teq (by decide)).1) (by decide) (by decide) q) ?_
        show Rch p ev below _ T105 (mkF m 164 #[.val (.int p1), .val (.int p2), .val (.int p3), .val (.int p4), .val (.int p5), .val (.int ca), .val (.int cb), .val (.int cc), .val (.int (0 : Int32)), .val (.int (p5 &&& (3 : Int32))), .val (.int qq), .val (.ref co), .val (.long ((fun _ => (0 : Int64)) qq.toNatClampNeg)), .second, .unset, .unset] [(.long ((1 : Int64) + (1 : Int64)))])
        refine Rch.go (fun _ q => XS.lconst X105.here hx rfl (hb hby at_164) q) ?_
        show Rch p ev below _ T105 (mkF m 165 #[.val (.int p1), .val (.int p2), .val (.int p3), .val (.int p4), .val (.int p5), .val (.int ca), .val (.int cb), .val (.int cc), .val (.int (0 : Int32)), .val (.int (p5 &&& (3 : Int32))), .val (.int qq), .val (.ref co), .val (.long ((fun _ => (0 : Int64)) qq.toNatClampNeg)), .second, .unset, .unset] [(.long (0 : Int64)), (.long ((1 : Int64) + (1 : Int64)))])
        refine Rch.go (fun _ q => XS.ladd X105.here hx rfl (hb hby at_165) rfl q) ?_
        show Rch p ev below _ T105 (mkF m 166 #[.val (.int p1), .val (.int p2), .val (.int p3), .val (.int p4), .val (.int p5), .val (.int ca), .val (.int cb), .val (.int cc), .val (.int (0 : Int32)), .val (.int (p5 &&& (3 : Int32))), .val (.int qq), .val (.ref co), .val (.long ((fun _ => (0 : Int64)) qq.toNatClampNeg)), .second, .unset, .unset] [(.long (((1 : Int64) + (1 : Int64)) + (0 : Int64)))])
        refine Rch.go (fun _ q => XS.lstore X105.here hx rfl (hb hby at_166) rfl (l' := #[.val (.int p1), .val (.int p2), .val (.int p3), .val (.int p4), .val (.int p5), .val (.int ca), .val (.int cb), .val (.int cc), .val (.int (0 : Int32)), .val (.int (p5 &&& (3 : Int32))), .val (.int qq), .val (.ref co), .val (.long ((fun _ => (0 : Int64)) qq.toNatClampNeg)), .second, .val (.long (((1 : Int64) + (1 : Int64)) + (0 : Int64))), .second]) rfl q) ?_
        show Rch p ev below _ T105 (mkF m 168 #[.val (.int p1), .val (.int p2), .val (.int p3), .val (.int p4), .val (.int p5), .val (.int ca), .val (.int cb), .val (.int cc), .val (.int (0 : Int32)), .val (.int (p5 &&& (3 : Int32))), .val (.int qq), .val (.ref co), .val (.long ((fun _ => (0 : Int64)) qq.toNatClampNeg)), .second, .val (.long (((1 : Int64) + (1 : Int64)) + (0 : Int64))), .second] [])
        refine Rch.go (fun _ q => XS.lload X105.here hx rfl (hb hby at_168) rfl  q) ?_
        show Rch p ev below _ T105 (mkF m 170 #[.val (.int p1), .val (.int p2), .val (.int p3), .val (.int p4), .val (.int p5), .val (.int ca), .val (.int cb), .val (.int cc), .val (.int (0 : Int32)), .val (.int (p5 &&& (3 : Int32))), .val (.int qq), .val (.ref co), .val (.long ((fun _ => (0 : Int64)) qq.toNatClampNeg)), .second, .val (.long (((1 : Int64) + (1 : Int64)) + (0 : Int64))), .second] [(.long ((fun _ => (0 : Int64)) qq.toNatClampNeg))])
        refine Rch.go (fun _ q => XS.lconst X105.here hx rfl (hb hby at_170) q) ?_
        show Rch p ev below _ T105 (mkF m 171 #[.val (.int p1), .val (.int p2), .val (.int p3), .val (.int p4), .val (.int p5), .val (.int ca), .val (.int cb), .val (.int cc), .val (.int (0 : Int32)), .val (.int (p5 &&& (3 : Int32))), .val (.int qq), .val (.ref co), .val (.long ((fun _ => (0 : Int64)) qq.toNatClampNeg)), .second, .val (.long (((1 : Int64) + (1 : Int64)) + (0 : Int64))), .second] [(.long (0 : Int64)), (.long ((fun _ => (0 : Int64)) qq.toNatClampNeg))])
        refine Rch.go (fun _ q => XS.lcmp X105.here hx rfl (hb hby at_171) rfl q) ?_
        show Rch p ev below _ T105 (mkF m 172 #[.val (.int p1), .val (.int p2), .val (.int p3), .val (.int p4), .val (.int p5), .val (.int ca), .val (.int cb), .val (.int cc), .val (.int (0 : Int32)), .val (.int (p5 &&& (3 : Int32))), .val (.int qq), .val (.ref co), .val (.long ((fun _ => (0 : Int64)) qq.toNatClampNeg)), .second, .val (.long (((1 : Int64) + (1 : Int64)) + (0 : Int64))), .second] [(.int (lcmpW ((fun _ => (0 : Int64)) qq.toNatClampNeg) (0 : Int64)))])
        refine Rch.go (fun _ q => XS.ifNo X105.here hx rfl (hb hby at_172) rfl ((if0 _ _).trans (teq ((lw_eq _ _).mpr rfl)).2) q) ?_
        show Rch p ev below _ T105 (mkF m 175 #[.val (.int p1), .val (.int p2), .val (.int p3), .val (.int p4), .val (.int p5), .val (.int ca), .val (.int cb), .val (.int cc), .val (.int (0 : Int32)), .val (.int (p5 &&& (3 : Int32))), .val (.int qq), .val (.ref co), .val (.long ((fun _ => (0 : Int64)) qq.toNatClampNeg)), .second, .val (.long (((1 : Int64) + (1 : Int64)) + (0 : Int64))), .second] [])
        refine Rch.go (fun _ q => XS.aload X105.here hx rfl (hb hby at_175) rfl rfl q) ?_
        show Rch p ev below _ T105 (mkF m 177 #[.val (.int p1), .val (.int p2), .val (.int p3), .val (.int p4), .val (.int p5), .val (.int ca), .val (.int cb), .val (.int cc), .val (.int (0 : Int32)), .val (.int (p5 &&& (3 : Int32))), .val (.int qq), .val (.ref co), .val (.long ((fun _ => (0 : Int64)) qq.toNatClampNeg)), .second, .val (.long (((1 : Int64) + (1 : Int64)) + (0 : Int64))), .second] [(.ref co)])
        refine Rch.go (fun _ q => XS.iload X105.here hx rfl (hb hby at_177) rfl  q) ?_
        show Rch p ev below _ T105 (mkF m 179 #[.val (.int p1), .val (.int p2), .val (.int p3), .val (.int p4), .val (.int p5), .val (.int ca), .val (.int cb), .val (.int cc), .val (.int (0 : Int32)), .val (.int (p5 &&& (3 : Int32))), .val (.int qq), .val (.ref co), .val (.long ((fun _ => (0 : Int64)) qq.toNatClampNeg)), .second, .val (.long (((1 : Int64) + (1 : Int64)) + (0 : Int64))), .second] [(.int qq), (.ref co)])
        obtain ⟨cq106, kq106, q106a, q106b, q106c⟩ := isOf hZ rfl (own_exa Cc105)
        obtain ⟨_, _, ⟨T106, L106, k106, n106⟩, -, X106, ⟨Lc106, hQ106, l106, y106, z106⟩, st106⟩ := X105.virtualBack hx (y := (⟨"com/example/pocket_reasoner/pocketreasoner/tableau/ConceptCounts", "of", "(I)J"⟩ : MethodName)) (z := (⟨"com/example/pocket_reasoner/pocketreasoner/tableau/ConceptCounts", "of", "(I)J"⟩ : MethodName)) hown (mvT hZ (hw _ (List.mem_of_getElem? (i := 12) rfl))) (mvT hZ (hw _ (List.mem_of_getElem? (i := 13) rfl))) (notFace_of_selects (args := #[]) (mvT hZ (hw _ (List.mem_of_getElem? (i := 15) rfl)))) (mvT hZ (hw _ (List.mem_of_getElem? (i := 15) rfl))) (mvT hZ (hw _ (List.mem_of_getElem? (i := 14) rfl))) (by decide) (backOf (W := 0) (rm5 l Z a0 hw [] co qq zc105 (fun i => if i = cb.toNatClampNeg then (fun i => if i = ca.toNatClampNeg then (fun _ => (0 : Int64)) i + 1 else (fun _ => (0 : Int64)) i) i + 1 else (fun i => if i = ca.toNatClampNeg then (fun _ => (0 : Int64)) i + 1 else (fun _ => (0 : Int64)) i) i) T105.heap n0 Zc105 Cc105 hqq) hZ (hw _ (List.mem_of_getElem? (i := 16) rfl)) (hw _ (List.mem_of_getElem? (i := 2) rfl)) (by decide) (by decide)) q106a q106c (g := (mkF m 179 #[.val (.int p1), .val (.int p2), .val (.int p3), .val (.int p4), .val (.int p5), .val (.int ca), .val (.int cb), .val (.int cc), .val (.int (0 : Int32)), .val (.int (p5 &&& (3 : Int32))), .val (.int qq), .val (.ref co), .val (.long ((fun _ => (0 : Int64)) qq.toNatClampNeg)), .second, .val (.long (((1 : Int64) + (1 : Int64)) + (0 : Int64))), .second] [(.int qq), (.ref co)])) rfl (by rw [hml]; rfl) (Steps.refl _) (argsL := [(.int qq)]) (rest := []) (lenOf own_pd3 rfl) rfl (by show 2 * 0 + _ ≤ _; exact Nat.le_of_eq rfl) (hb hby at_179) (fun _ _ => ⟨rfl, rfl, (by decide : 4 + 0 ≤ _), (by decide : 1085 + 0 ≤ _)⟩)
        dsimp only [Pt.U, Pt.locs, Pt.cells, Pt.slots] at X106 l106 y106 z106 st106 hQ106
        subst l106 y106 z106
        obtain ⟨rfl, Nc, ec⟩ := hQ106
        refine Rch.jump st106 ?_
        show Rch p ev below _ T106 (mkF m 182 #[.val (.int p1), .val (.int p2), .val (.int p3), .val (.int p4), .val (.int p5), .val (.int ca), .val (.int cb), .val (.int cc), .val (.int (0 : Int32)), .val (.int (p5 &&& (3 : Int32))), .val (.int qq), .val (.ref co), .val (.long ((fun _ => (0 : Int64)) qq.toNatClampNeg)), .second, .val (.long (((1 : Int64) + (1 : Int64)) + (0 : Int64))), .second] [(.long ((fun i => if i = cb.toNatClampNeg then (fun i => if i = ca.toNatClampNeg then (fun _ => (0 : Int64)) i + 1 else (fun _ => (0 : Int64)) i) i + 1 else (fun i => if i = ca.toNatClampNeg then (fun _ => (0 : Int64)) i + 1 else (fun _ => (0 : Int64)) i) i) qq.toNatClampNeg))])
        have N106 := Fr.app N105 Nc
        have e106 := ec
        refine Rch.go (fun _ q => XS.lload X106.here hx rfl (hb hby at_182) rfl  q) ?_
        show Rch p ev below _ T106 (mkF m 184 #[.val (.int p1), .val (.int p2), .val (.int p3), .val (.int p4), .val (.int p5), .val (.int ca), .val (.int cb), .val (.int cc), .val (.int (0 : Int32)), .val (.int (p5 &&& (3 : Int32))), .val (.int qq), .val (.ref co), .val (.long ((fun _ => (0 : Int64)) qq.toNatClampNeg)), .second, .val (.long (((1 : Int64) + (1 : Int64)) + (0 : Int64))), .second] [(.long (((1 : Int64) + (1 : Int64)) + (0 : Int64))), (.long ((fun i => if i = cb.toNatClampNeg then (fun i => if i = ca.toNatClampNeg then (fun _ => (0 : Int64)) i + 1 else (fun _ => (0 : Int64)) i) i + 1 else (fun i => if i = ca.toNatClampNeg then (fun _ => (0 : Int64)) i + 1 else (fun _ => (0 : Int64)) i) i) qq.toNatClampNeg))])
        refine Rch.go (fun _ q => XS.lcmp X106.here hx rfl (hb hby at_184) rfl q) ?_
        show Rch p ev below _ T106 (mkF m 185 #[.val (.int p1), .val (.int p2), .val (.int p3), .val (.int p4), .val (.int p5), .val (.int ca), .val (.int cb), .val (.int cc), .val (.int (0 : Int32)), .val (.int (p5 &&& (3 : Int32))), .val (.int qq), .val (.ref co), .val (.long ((fun _ => (0 : Int64)) qq.toNatClampNeg)), .second, .val (.long (((1 : Int64) + (1 : Int64)) + (0 : Int64))), .second] [(.int (lcmpW ((fun i => if i = cb.toNatClampNeg then (fun i => if i = ca.toNatClampNeg then (fun _ => (0 : Int64)) i + 1 else (fun _ => (0 : Int64)) i) i + 1 else (fun i => if i = ca.toNatClampNeg then (fun _ => (0 : Int64)) i + 1 else (fun _ => (0 : Int64)) i) i) qq.toNatClampNeg) (((1 : Int64) + (1 : Int64)) + (0 : Int64))))])
        have qhc127 := eq_true hc127
        have qhc139 := eq_true hc139
        have hq : ((fun i => if i = cb.toNatClampNeg then (fun i => if i = ca.toNatClampNeg then (fun _ => (0 : Int64)) i + 1 else (fun _ => (0 : Int64)) i) i + 1 else (fun i => if i = ca.toNatClampNeg then (fun _ => (0 : Int64)) i + 1 else (fun _ => (0 : Int64)) i) i) qq.toNatClampNeg) = (((1 : Int64) + (1 : Int64)) + (0 : Int64)) := by
          simp only [own_ti qq ca hqq ha.1, own_ti qq cb hqq hb'.1, own_ti qq cc hqq hc'.1, qhc127, qhc139, if_true, if_false]; first | done | rfl | decide
        refine Rch.go (fun _ q => XS.ifNo X106.here hx rfl (hb hby at_185) rfl ((if0 _ _).trans (teq ((lw_eq _ _).mpr hq)).2) q) ?_
        show Rch p ev below _ T106 (mkF m 188 #[.val (.int p1), .val (.int p2), .val (.int p3), .val (.int p4), .val (.int p5), .val (.int ca), .val (.int cb), .val (.int cc), .val (.int (0 : Int32)), .val (.int (p5 &&& (3 : Int32))), .val (.int qq), .val (.ref co), .val (.long ((fun _ => (0 : Int64)) qq.toNatClampNeg)), .second, .val (.long (((1 : Int64) + (1 : Int64)) + (0 : Int64))), .second] [])
        refine Rch.go (fun _ q => XS.iconst X106.here hx rfl (hb hby at_188) q) ?_
        show Rch p ev below _ T106 (mkF m 189 #[.val (.int p1), .val (.int p2), .val (.int p3), .val (.int p4), .val (.int p5), .val (.int ca), .val (.int cb), .val (.int cc), .val (.int (0 : Int32)), .val (.int (p5 &&& (3 : Int32))), .val (.int qq), .val (.ref co), .val (.long ((fun _ => (0 : Int64)) qq.toNatClampNeg)), .second, .val (.long (((1 : Int64) + (1 : Int64)) + (0 : Int64))), .second] [(.int (1 : Int32))])
        refine Rch.go (fun _ q => XS.goto X106.here hx rfl (pc0 := 189) (pc' := 193) rfl (hb hby at_189) (by decide) (by decide) q) ?_
        show Rch p ev below _ T106 (mkF m 193 #[.val (.int p1), .val (.int p2), .val (.int p3), .val (.int p4), .val (.int p5), .val (.int ca), .val (.int cb), .val (.int cc), .val (.int (0 : Int32)), .val (.int (p5 &&& (3 : Int32))), .val (.int qq), .val (.ref co), .val (.long ((fun _ => (0 : Int64)) qq.toNatClampNeg)), .second, .val (.long (((1 : Int64) + (1 : Int64)) + (0 : Int64))), .second] [(.int (1 : Int32))])
        refine Rch.retZ X106 hx hlk Bd.returns (hb hby at_193) (by decide) (by decide) ?_
        unfold Qrm0
        exact ⟨rfl, N106⟩
      · skip
        refine Rch.go (fun _ q => XS.icmpYes X105.here hx rfl (pc0 := 139) (pc' := 146) rfl (hb hby at_139) rfl (feq hc139).2 (by decide) (by decide) q) ?_
        show Rch p ev below _ T105 (mkF m 146 #[.val (.int p1), .val (.int p2), .val (.int p3), .val (.int p4), .val (.int p5), .val (.int ca), .val (.int cb), .val (.int cc), .val (.int (0 : Int32)), .val (.int (p5 &&& (3 : Int32))), .val (.int qq), .val (.ref co), .val (.long ((fun _ => (0 : Int64)) qq.toNatClampNeg)), .second, .unset, .unset] [(.long (1 : Int64))])
        refine Rch.go (fun _ q => XS.lconst X105.here hx rfl (hb hby at_146) q) ?_
        show Rch p ev below _ T105 (mkF m 147 #[.val (.int p1), .val (.int p2), .val (.int p3), .val (.int p4), .val (.int p5), .val (.int ca), .val (.int cb), .val (.int cc), .val (.int (0 : Int32)), .val (.int (p5 &&& (3 : Int32))), .val (.int qq), .val (.ref co), .val (.long ((fun _ => (0 : Int64)) qq.toNatClampNeg)), .second, .unset, .unset] [(.long (0 : Int64)), (.long (1 : Int64))])
        refine Rch.go (fun _ q => XS.ladd X105.here hx rfl (hb hby at_147) rfl q) ?_
        show Rch p ev below _ T105 (mkF m 148 #[.val (.int p1), .val (.int p2), .val (.int p3), .val (.int p4), .val (.int p5), .val (.int ca), .val (.int cb), .val (.int cc), .val (.int (0 : Int32)), .val (.int (p5 &&& (3 : Int32))), .val (.int qq), .val (.ref co), .val (.long ((fun _ => (0 : Int64)) qq.toNatClampNeg)), .second, .unset, .unset] [(.long ((1 : Int64) + (0 : Int64)))])
        refine Rch.go (fun _ q => XS.iload X105.here hx rfl (hb hby at_148) rfl  q) ?_
        show Rch p ev below _ T105 (mkF m 150 #[.val (.int p1), .val (.int p2), .val (.int p3), .val (.int p4), .val (.int p5), .val (.int ca), .val (.int cb), .val (.int cc), .val (.int (0 : Int32)), .val (.int (p5 &&& (3 : Int32))), .val (.int qq), .val (.ref co), .val (.long ((fun _ => (0 : Int64)) qq.toNatClampNeg)), .second, .unset, .unset] [(.int (0 : Int32)), (.long ((1 : Int64) + (0 : Int64)))])
        refine Rch.go (fun _ q => XS.ifYes X105.here hx rfl (pc0 := 150) (pc' := 164) rfl (hb hby at_150) rfl ((if0 _ _).trans (teq (by decide)).1) (by decide) (by decide) q) ?_
        show Rch p ev below _ T105 (mkF m 164 #[.val (.int p1), .val (.int p2), .val (.int p3), .val (.int p4), .val (.int p5), .val (.int ca), .val (.int cb), .val (.int cc), .val (.int (0 : Int32)), .val (.int (p5 &&& (3 : Int32))), .val (.int qq), .val (.ref co), .val (.long ((fun _ => (0 : Int64)) qq.toNatClampNeg)), .second, .unset, .unset] [(.long ((1 : Int64) + (0 : Int64)))])
        refine Rch.go (fun _ q => XS.lconst X105.here hx rfl (hb hby at_164) q) ?_
        show Rch p ev below _ T105 (mkF m 165 #[.val (.int p1), .val (.int p2), .val (.int p3), .val (.int p4), .val (.int p5), .val (.int ca), .val (.int cb), .val (.int cc), .val (.int (0 : Int32)), .val (.int (p5 &&& (3 : Int32))), .val (.int qq), .val (.ref co), .val (.long ((fun _ => (0 : Int64)) qq.toNatClampNeg)), .second, .unset, .unset] [(.long (0 : Int64)), (.long ((1 : Int64) + (0 : Int64)))])
        refine Rch.go (fun _ q => XS.ladd X105.here hx rfl (hb hby at_165) rfl q) ?_
        show Rch p ev below _ T105 (mkF m 166 #[.val (.int p1), .val (.int p2), .val (.int p3), .val (.int p4), .val (.int p5), .val (.int ca), .val (.int cb), .val (.int cc), .val (.int (0 : Int32)), .val (.int (p5 &&& (3 : Int32))), .val (.int qq), .val (.ref co), .val (.long ((fun _ => (0 : Int64)) qq.toNatClampNeg)), .second, .unset, .unset] [(.long (((1 : Int64) + (0 : Int64)) + (0 : Int64)))])
        refine Rch.go (fun _ q => XS.lstore X105.here hx rfl (hb hby at_166) rfl (l' := #[.val (.int p1), .val (.int p2), .val (.int p3), .val (.int p4), .val (.int p5), .val (.int ca), .val (.int cb), .val (.int cc), .val (.int (0 : Int32)), .val (.int (p5 &&& (3 : Int32))), .val (.int qq), .val (.ref co), .val (.long ((fun _ => (0 : Int64)) qq.toNatClampNeg)), .second, .val (.long (((1 : Int64) + (0 : Int64)) + (0 : Int64))), .second]) rfl q) ?_
        show Rch p ev below _ T105 (mkF m 168 #[.val (.int p1), .val (.int p2), .val (.int p3), .val (.int p4), .val (.int p5), .val (.int ca), .val (.int cb), .val (.int cc), .val (.int (0 : Int32)), .val (.int (p5 &&& (3 : Int32))), .val (.int qq), .val (.ref co), .val (.long ((fun _ => (0 : Int64)) qq.toNatClampNeg)), .second, .val (.long (((1 : Int64) + (0 : Int64)) + (0 : Int64))), .second] [])
        refine Rch.go (fun _ q => XS.lload X105.here hx rfl (hb hby at_168) rfl  q) ?_
        show Rch p ev below _ T105 (mkF m 170 #[.val (.int p1), .val (.int p2), .val (.int p3), .val (.int p4), .val (.int p5), .val (.int ca), .val (.int cb), .val (.int cc), .val (.int (0 : Int32)), .val (.int (p5 &&& (3 : Int32))), .val (.int qq), .val (.ref co), .val (.long ((fun _ => (0 : Int64)) qq.toNatClampNeg)), .second, .val (.long (((1 : Int64) + (0 : Int64)) + (0 : Int64))), .second] [(.long ((fun _ => (0 : Int64)) qq.toNatClampNeg))])
        refine Rch.go (fun _ q => XS.lconst X105.here hx rfl (hb hby at_170) q) ?_
        show Rch p ev below _ T105 (mkF m 171 #[.val (.int p1), .val (.int p2), .val (.int p3), .val (.int p4), .val (.int p5), .val (.int ca), .val (.int cb), .val (.int cc), .val (.int (0 : Int32)), .val (.int (p5 &&& (3 : Int32))), .val (.int qq), .val (.ref co), .val (.long ((fun _ => (0 : Int64)) qq.toNatClampNeg)), .second, .val (.long (((1 : Int64) + (0 : Int64)) + (0 : Int64))), .second] [(.long (0 : Int64)), (.long ((fun _ => (0 : Int64)) qq.toNatClampNeg))])
        refine Rch.go (fun _ q => XS.lcmp X105.here hx rfl (hb hby at_171) rfl q) ?_
        show Rch p ev below _ T105 (mkF m 172 #[.val (.int p1), .val (.int p2), .val (.int p3), .val (.int p4), .val (.int p5), .val (.int ca), .val (.int cb), .val (.int cc), .val (.int (0 : Int32)), .val (.int (p5 &&& (3 : Int32))), .val (.int qq), .val (.ref co), .val (.long ((fun _ => (0 : Int64)) qq.toNatClampNeg)), .second, .val (.long (((1 : Int64) + (0 : Int64)) + (0 : Int64))), .second] [(.int (lcmpW ((fun _ => (0 : Int64)) qq.toNatClampNeg) (0 : Int64)))])
        refine Rch.go (fun _ q => XS.ifNo X105.here hx rfl (hb hby at_172) rfl ((if0 _ _).trans (teq ((lw_eq _ _).mpr rfl)).2) q) ?_
        show Rch p ev below _ T105 (mkF m 175 #[.val (.int p1), .val (.int p2), .val (.int p3), .val (.int p4), .val (.int p5), .val (.int ca), .val (.int cb), .val (.int cc), .val (.int (0 : Int32)), .val (.int (p5 &&& (3 : Int32))), .val (.int qq), .val (.ref co), .val (.long ((fun _ => (0 : Int64)) qq.toNatClampNeg)), .second, .val (.long (((1 : Int64) + (0 : Int64)) + (0 : Int64))), .second] [])
        refine Rch.go (fun _ q => XS.aload X105.here hx rfl (hb hby at_175) rfl rfl q) ?_
        show Rch p ev below _ T105 (mkF m 177 #[.val (.int p1), .val (.int p2), .val (.int p3), .val (.int p4), .val (.int p5), .val (.int ca), .val (.int cb), .val (.int cc), .val (.int (0 : Int32)), .val (.int (p5 &&& (3 : Int32))), .val (.int qq), .val (.ref co), .val (.long ((fun _ => (0 : Int64)) qq.toNatClampNeg)), .second, .val (.long (((1 : Int64) + (0 : Int64)) + (0 : Int64))), .second] [(.ref co)])
        refine Rch.go (fun _ q => XS.iload X105.here hx rfl (hb hby at_177) rfl  q) ?_
        show Rch p ev below _ T105 (mkF m 179 #[.val (.int p1), .val (.int p2), .val (.int p3), .val (.int p4), .val (.int p5), .val (.int ca), .val (.int cb), .val (.int cc), .val (.int (0 : Int32)), .val (.int (p5 &&& (3 : Int32))), .val (.int qq), .val (.ref co), .val (.long ((fun _ => (0 : Int64)) qq.toNatClampNeg)), .second, .val (.long (((1 : Int64) + (0 : Int64)) + (0 : Int64))), .second] [(.int qq), (.ref co)])
        obtain ⟨cq107, kq107, q107a, q107b, q107c⟩ := isOf hZ rfl (own_exa Cc105)
        obtain ⟨_, _, ⟨T107, L107, k107, n107⟩, -, X107, ⟨Lc107, hQ107, l107, y107, z107⟩, st107⟩ := X105.virtualBack hx (y := (⟨"com/example/pocket_reasoner/pocketreasoner/tableau/ConceptCounts", "of", "(I)J"⟩ : MethodName)) (z := (⟨"com/example/pocket_reasoner/pocketreasoner/tableau/ConceptCounts", "of", "(I)J"⟩ : MethodName)) hown (mvT hZ (hw _ (List.mem_of_getElem? (i := 12) rfl))) (mvT hZ (hw _ (List.mem_of_getElem? (i := 13) rfl))) (notFace_of_selects (args := #[]) (mvT hZ (hw _ (List.mem_of_getElem? (i := 15) rfl)))) (mvT hZ (hw _ (List.mem_of_getElem? (i := 15) rfl))) (mvT hZ (hw _ (List.mem_of_getElem? (i := 14) rfl))) (by decide) (backOf (W := 0) (rm5 l Z a0 hw [] co qq zc105 (fun i => if i = cb.toNatClampNeg then (fun i => if i = ca.toNatClampNeg then (fun _ => (0 : Int64)) i + 1 else (fun _ => (0 : Int64)) i) i + 1 else (fun i => if i = ca.toNatClampNeg then (fun _ => (0 : Int64)) i + 1 else (fun _ => (0 : Int64)) i) i) T105.heap n0 Zc105 Cc105 hqq) hZ (hw _ (List.mem_of_getElem? (i := 16) rfl)) (hw _ (List.mem_of_getElem? (i := 2) rfl)) (by decide) (by decide)) q107a q107c (g := (mkF m 179 #[.val (.int p1), .val (.int p2), .val (.int p3), .val (.int p4), .val (.int p5), .val (.int ca), .val (.int cb), .val (.int cc), .val (.int (0 : Int32)), .val (.int (p5 &&& (3 : Int32))), .val (.int qq), .val (.ref co), .val (.long ((fun _ => (0 : Int64)) qq.toNatClampNeg)), .second, .val (.long (((1 : Int64) + (0 : Int64)) + (0 : Int64))), .second] [(.int qq), (.ref co)])) rfl (by rw [hml]; rfl) (Steps.refl _) (argsL := [(.int qq)]) (rest := []) (lenOf own_pd3 rfl) rfl (by show 2 * 0 + _ ≤ _; exact Nat.le_of_eq rfl) (hb hby at_179) (fun _ _ => ⟨rfl, rfl, (by decide : 4 + 0 ≤ _), (by decide : 1085 + 0 ≤ _)⟩)
        dsimp only [Pt.U, Pt.locs, Pt.cells, Pt.slots] at X107 l107 y107 z107 st107 hQ107
        subst l107 y107 z107
        obtain ⟨rfl, Nc, ec⟩ := hQ107
        refine Rch.jump st107 ?_
        show Rch p ev below _ T107 (mkF m 182 #[.val (.int p1), .val (.int p2), .val (.int p3), .val (.int p4), .val (.int p5), .val (.int ca), .val (.int cb), .val (.int cc), .val (.int (0 : Int32)), .val (.int (p5 &&& (3 : Int32))), .val (.int qq), .val (.ref co), .val (.long ((fun _ => (0 : Int64)) qq.toNatClampNeg)), .second, .val (.long (((1 : Int64) + (0 : Int64)) + (0 : Int64))), .second] [(.long ((fun i => if i = cb.toNatClampNeg then (fun i => if i = ca.toNatClampNeg then (fun _ => (0 : Int64)) i + 1 else (fun _ => (0 : Int64)) i) i + 1 else (fun i => if i = ca.toNatClampNeg then (fun _ => (0 : Int64)) i + 1 else (fun _ => (0 : Int64)) i) i) qq.toNatClampNeg))])
        have N107 := Fr.app N105 Nc
        have e107 := ec
        refine Rch.go (fun _ q => XS.lload X107.here hx rfl (hb hby at_182) rfl  q) ?_
        show Rch p ev below _ T107 (mkF m 184 #[.val (.int p1), .val (.int p2), .val (.int p3), .val (.int p4), .val (.int p5), .val (.int ca), .val (.int cb), .val (.int cc), .val (.int (0 : Int32)), .val (.int (p5 &&& (3 : Int32))), .val (.int qq), .val (.ref co), .val (.long ((fun _ => (0 : Int64)) qq.toNatClampNeg)), .second, .val (.long (((1 : Int64) + (0 : Int64)) + (0 : Int64))), .second] [(.long (((1 : Int64) + (0 : Int64)) + (0 : Int64))), (.long ((fun i => if i = cb.toNatClampNeg then (fun i => if i = ca.toNatClampNeg then (fun _ => (0 : Int64)) i + 1 else (fun _ => (0 : Int64)) i) i + 1 else (fun i => if i = ca.toNatClampNeg then (fun _ => (0 : Int64)) i + 1 else (fun _ => (0 : Int64)) i) i) qq.toNatClampNeg))])
        refine Rch.go (fun _ q => XS.lcmp X107.here hx rfl (hb hby at_184) rfl q) ?_
        show Rch p ev below _ T107 (mkF m 185 #[.val (.int p1), .val (.int p2), .val (.int p3), .val (.int p4), .val (.int p5), .val (.int ca), .val (.int cb), .val (.int cc), .val (.int (0 : Int32)), .val (.int (p5 &&& (3 : Int32))), .val (.int qq), .val (.ref co), .val (.long ((fun _ => (0 : Int64)) qq.toNatClampNeg)), .second, .val (.long (((1 : Int64) + (0 : Int64)) + (0 : Int64))), .second] [(.int (lcmpW ((fun i => if i = cb.toNatClampNeg then (fun i => if i = ca.toNatClampNeg then (fun _ => (0 : Int64)) i + 1 else (fun _ => (0 : Int64)) i) i + 1 else (fun i => if i = ca.toNatClampNeg then (fun _ => (0 : Int64)) i + 1 else (fun _ => (0 : Int64)) i) i) qq.toNatClampNeg) (((1 : Int64) + (0 : Int64)) + (0 : Int64))))])
        have qhc127 := eq_true hc127
        have qhc139 := eq_false hc139
        have hq : ((fun i => if i = cb.toNatClampNeg then (fun i => if i = ca.toNatClampNeg then (fun _ => (0 : Int64)) i + 1 else (fun _ => (0 : Int64)) i) i + 1 else (fun i => if i = ca.toNatClampNeg then (fun _ => (0 : Int64)) i + 1 else (fun _ => (0 : Int64)) i) i) qq.toNatClampNeg) = (((1 : Int64) + (0 : Int64)) + (0 : Int64)) := by
          simp only [own_ti qq ca hqq ha.1, own_ti qq cb hqq hb'.1, own_ti qq cc hqq hc'.1, qhc127, qhc139, if_true, if_false]; first | done | rfl | decide
        refine Rch.go (fun _ q => XS.ifNo X107.here hx rfl (hb hby at_185) rfl ((if0 _ _).trans (teq ((lw_eq _ _).mpr hq)).2) q) ?_
        show Rch p ev below _ T107 (mkF m 188 #[.val (.int p1), .val (.int p2), .val (.int p3), .val (.int p4), .val (.int p5), .val (.int ca), .val (.int cb), .val (.int cc), .val (.int (0 : Int32)), .val (.int (p5 &&& (3 : Int32))), .val (.int qq), .val (.ref co), .val (.long ((fun _ => (0 : Int64)) qq.toNatClampNeg)), .second, .val (.long (((1 : Int64) + (0 : Int64)) + (0 : Int64))), .second] [])
        refine Rch.go (fun _ q => XS.iconst X107.here hx rfl (hb hby at_188) q) ?_
        show Rch p ev below _ T107 (mkF m 189 #[.val (.int p1), .val (.int p2), .val (.int p3), .val (.int p4), .val (.int p5), .val (.int ca), .val (.int cb), .val (.int cc), .val (.int (0 : Int32)), .val (.int (p5 &&& (3 : Int32))), .val (.int qq), .val (.ref co), .val (.long ((fun _ => (0 : Int64)) qq.toNatClampNeg)), .second, .val (.long (((1 : Int64) + (0 : Int64)) + (0 : Int64))), .second] [(.int (1 : Int32))])
        refine Rch.go (fun _ q => XS.goto X107.here hx rfl (pc0 := 189) (pc' := 193) rfl (hb hby at_189) (by decide) (by decide) q) ?_
        show Rch p ev below _ T107 (mkF m 193 #[.val (.int p1), .val (.int p2), .val (.int p3), .val (.int p4), .val (.int p5), .val (.int ca), .val (.int cb), .val (.int cc), .val (.int (0 : Int32)), .val (.int (p5 &&& (3 : Int32))), .val (.int qq), .val (.ref co), .val (.long ((fun _ => (0 : Int64)) qq.toNatClampNeg)), .second, .val (.long (((1 : Int64) + (0 : Int64)) + (0 : Int64))), .second] [(.int (1 : Int32))])
        refine Rch.retZ X107 hx hlk Bd.returns (hb hby at_193) (by decide) (by decide) ?_
        unfold Qrm0
        exact ⟨rfl, N107⟩
    · skip
      refine Rch.go (fun _ q => XS.icmpYes X105.here hx rfl (pc0 := 127) (pc' := 134) rfl (hb hby at_127) rfl (feq hc127).2 (by decide) (by decide) q) ?_
      show Rch p ev below _ T105 (mkF m 134 #[.val (.int p1), .val (.int p2), .val (.int p3), .val (.int p4), .val (.int p5), .val (.int ca), .val (.int cb), .val (.int cc), .val (.int (0 : Int32)), .val (.int (p5 &&& (3 : Int32))), .val (.int qq), .val (.ref co), .val (.long ((fun _ => (0 : Int64)) qq.toNatClampNeg)), .second, .unset, .unset] [])
      refine Rch.go (fun _ q => XS.lconst X105.here hx rfl (hb hby at_134) q) ?_
      show Rch p ev below _ T105 (mkF m 135 #[.val (.int p1), .val (.int p2), .val (.int p3), .val (.int p4), .val (.int p5), .val (.int ca), .val (.int cb), .val (.int cc), .val (.int (0 : Int32)), .val (.int (p5 &&& (3 : Int32))), .val (.int qq), .val (.ref co), .val (.long ((fun _ => (0 : Int64)) qq.toNatClampNeg)), .second, .unset, .unset] [(.long (0 : Int64))])
      refine Rch.go (fun _ q => XS.iload X105.here hx rfl (hb hby at_135) rfl  q) ?_
      show Rch p ev below _ T105 (mkF m 137 #[.val (.int p1), .val (.int p2), .val (.int p3), .val (.int p4), .val (.int p5), .val (.int ca), .val (.int cb), .val (.int cc), .val (.int (0 : Int32)), .val (.int (p5 &&& (3 : Int32))), .val (.int qq), .val (.ref co), .val (.long ((fun _ => (0 : Int64)) qq.toNatClampNeg)), .second, .unset, .unset] [(.int qq), (.long (0 : Int64))])
      refine Rch.go (fun _ q => XS.iload X105.here hx rfl (hb hby at_137) rfl  q) ?_
      show Rch p ev below _ T105 (mkF m 139 #[.val (.int p1), .val (.int p2), .val (.int p3), .val (.int p4), .val (.int p5), .val (.int ca), .val (.int cb), .val (.int cc), .val (.int (0 : Int32)), .val (.int (p5 &&& (3 : Int32))), .val (.int qq), .val (.ref co), .val (.long ((fun _ => (0 : Int64)) qq.toNatClampNeg)), .second, .unset, .unset] [(.int cb), (.int qq), (.long (0 : Int64))])
      by_cases hc139 : qq = cb
      · skip
        refine Rch.go (fun _ q => XS.icmpNo X105.here hx rfl (hb hby at_139) rfl (teq hc139).2 q) ?_
        show Rch p ev below _ T105 (mkF m 142 #[.val (.int p1), .val (.int p2), .val (.int p3), .val (.int p4), .val (.int p5), .val (.int ca), .val (.int cb), .val (.int cc), .val (.int (0 : Int32)), .val (.int (p5 &&& (3 : Int32))), .val (.int qq), .val (.ref co), .val (.long ((fun _ => (0 : Int64)) qq.toNatClampNeg)), .second, .unset, .unset] [(.long (0 : Int64))])
        refine Rch.go (fun _ q => XS.lconst X105.here hx rfl (hb hby at_142) q) ?_
        show Rch p ev below _ T105 (mkF m 143 #[.val (.int p1), .val (.int p2), .val (.int p3), .val (.int p4), .val (.int p5), .val (.int ca), .val (.int cb), .val (.int cc), .val (.int (0 : Int32)), .val (.int (p5 &&& (3 : Int32))), .val (.int qq), .val (.ref co), .val (.long ((fun _ => (0 : Int64)) qq.toNatClampNeg)), .second, .unset, .unset] [(.long (1 : Int64)), (.long (0 : Int64))])
        refine Rch.go (fun _ q => XS.goto X105.here hx rfl (pc0 := 143) (pc' := 147) rfl (hb hby at_143) (by decide) (by decide) q) ?_
        show Rch p ev below _ T105 (mkF m 147 #[.val (.int p1), .val (.int p2), .val (.int p3), .val (.int p4), .val (.int p5), .val (.int ca), .val (.int cb), .val (.int cc), .val (.int (0 : Int32)), .val (.int (p5 &&& (3 : Int32))), .val (.int qq), .val (.ref co), .val (.long ((fun _ => (0 : Int64)) qq.toNatClampNeg)), .second, .unset, .unset] [(.long (1 : Int64)), (.long (0 : Int64))])
        refine Rch.go (fun _ q => XS.ladd X105.here hx rfl (hb hby at_147) rfl q) ?_
        show Rch p ev below _ T105 (mkF m 148 #[.val (.int p1), .val (.int p2), .val (.int p3), .val (.int p4), .val (.int p5), .val (.int ca), .val (.int cb), .val (.int cc), .val (.int (0 : Int32)), .val (.int (p5 &&& (3 : Int32))), .val (.int qq), .val (.ref co), .val (.long ((fun _ => (0 : Int64)) qq.toNatClampNeg)), .second, .unset, .unset] [(.long ((0 : Int64) + (1 : Int64)))])
        refine Rch.go (fun _ q => XS.iload X105.here hx rfl (hb hby at_148) rfl  q) ?_
        show Rch p ev below _ T105 (mkF m 150 #[.val (.int p1), .val (.int p2), .val (.int p3), .val (.int p4), .val (.int p5), .val (.int ca), .val (.int cb), .val (.int cc), .val (.int (0 : Int32)), .val (.int (p5 &&& (3 : Int32))), .val (.int qq), .val (.ref co), .val (.long ((fun _ => (0 : Int64)) qq.toNatClampNeg)), .second, .unset, .unset] [(.int (0 : Int32)), (.long ((0 : Int64) + (1 : Int64)))])
        refine Rch.go (fun _ q => XS.ifYes X105.here hx rfl (pc0 := 150) (pc' := 164) rfl (hb hby at_150) rfl ((if0 _ _).trans (teq (by decide)).1) (by decide) (by decide) q) ?_
        show Rch p ev below _ T105 (mkF m 164 #[.val (.int p1), .val (.int p2), .val (.int p3), .val (.int p4), .val (.int p5), .val (.int ca), .val (.int cb), .val (.int cc), .val (.int (0 : Int32)), .val (.int (p5 &&& (3 : Int32))), .val (.int qq), .val (.ref co), .val (.long ((fun _ => (0 : Int64)) qq.toNatClampNeg)), .second, .unset, .unset] [(.long ((0 : Int64) + (1 : Int64)))])
        refine Rch.go (fun _ q => XS.lconst X105.here hx rfl (hb hby at_164) q) ?_
        show Rch p ev below _ T105 (mkF m 165 #[.val (.int p1), .val (.int p2), .val (.int p3), .val (.int p4), .val (.int p5), .val (.int ca), .val (.int cb), .val (.int cc), .val (.int (0 : Int32)), .val (.int (p5 &&& (3 : Int32))), .val (.int qq), .val (.ref co), .val (.long ((fun _ => (0 : Int64)) qq.toNatClampNeg)), .second, .unset, .unset] [(.long (0 : Int64)), (.long ((0 : Int64) + (1 : Int64)))])
        refine Rch.go (fun _ q => XS.ladd X105.here hx rfl (hb hby at_165) rfl q) ?_
        show Rch p ev below _ T105 (mkF m 166 #[.val (.int p1), .val (.int p2), .val (.int p3), .val (.int p4), .val (.int p5), .val (.int ca), .val (.int cb), .val (.int cc), .val (.int (0 : Int32)), .val (.int (p5 &&& (3 : Int32))), .val (.int qq), .val (.ref co), .val (.long ((fun _ => (0 : Int64)) qq.toNatClampNeg)), .second, .unset, .unset] [(.long (((0 : Int64) + (1 : Int64)) + (0 : Int64)))])
        refine Rch.go (fun _ q => XS.lstore X105.here hx rfl (hb hby at_166) rfl (l' := #[.val (.int p1), .val (.int p2), .val (.int p3), .val (.int p4), .val (.int p5), .val (.int ca), .val (.int cb), .val (.int cc), .val (.int (0 : Int32)), .val (.int (p5 &&& (3 : Int32))), .val (.int qq), .val (.ref co), .val (.long ((fun _ => (0 : Int64)) qq.toNatClampNeg)), .second, .val (.long (((0 : Int64) + (1 : Int64)) + (0 : Int64))), .second]) rfl q) ?_
        show Rch p ev below _ T105 (mkF m 168 #[.val (.int p1), .val (.int p2), .val (.int p3), .val (.int p4), .val (.int p5), .val (.int ca), .val (.int cb), .val (.int cc), .val (.int (0 : Int32)), .val (.int (p5 &&& (3 : Int32))), .val (.int qq), .val (.ref co), .val (.long ((fun _ => (0 : Int64)) qq.toNatClampNeg)), .second, .val (.long (((0 : Int64) + (1 : Int64)) + (0 : Int64))), .second] [])
        refine Rch.go (fun _ q => XS.lload X105.here hx rfl (hb hby at_168) rfl  q) ?_
        show Rch p ev below _ T105 (mkF m 170 #[.val (.int p1), .val (.int p2), .val (.int p3), .val (.int p4), .val (.int p5), .val (.int ca), .val (.int cb), .val (.int cc), .val (.int (0 : Int32)), .val (.int (p5 &&& (3 : Int32))), .val (.int qq), .val (.ref co), .val (.long ((fun _ => (0 : Int64)) qq.toNatClampNeg)), .second, .val (.long (((0 : Int64) + (1 : Int64)) + (0 : Int64))), .second] [(.long ((fun _ => (0 : Int64)) qq.toNatClampNeg))])
        refine Rch.go (fun _ q => XS.lconst X105.here hx rfl (hb hby at_170) q) ?_
        show Rch p ev below _ T105 (mkF m 171 #[.val (.int p1), .val (.int p2), .val (.int p3), .val (.int p4), .val (.int p5), .val (.int ca), .val (.int cb), .val (.int cc), .val (.int (0 : Int32)), .val (.int (p5 &&& (3 : Int32))), .val (.int qq), .val (.ref co), .val (.long ((fun _ => (0 : Int64)) qq.toNatClampNeg)), .second, .val (.long (((0 : Int64) + (1 : Int64)) + (0 : Int64))), .second] [(.long (0 : Int64)), (.long ((fun _ => (0 : Int64)) qq.toNatClampNeg))])
        refine Rch.go (fun _ q => XS.lcmp X105.here hx rfl (hb hby at_171) rfl q) ?_
        show Rch p ev below _ T105 (mkF m 172 #[.val (.int p1), .val (.int p2), .val (.int p3), .val (.int p4), .val (.int p5), .val (.int ca), .val (.int cb), .val (.int cc), .val (.int (0 : Int32)), .val (.int (p5 &&& (3 : Int32))), .val (.int qq), .val (.ref co), .val (.long ((fun _ => (0 : Int64)) qq.toNatClampNeg)), .second, .val (.long (((0 : Int64) + (1 : Int64)) + (0 : Int64))), .second] [(.int (lcmpW ((fun _ => (0 : Int64)) qq.toNatClampNeg) (0 : Int64)))])
        refine Rch.go (fun _ q => XS.ifNo X105.here hx rfl (hb hby at_172) rfl ((if0 _ _).trans (teq ((lw_eq _ _).mpr rfl)).2) q) ?_
        show Rch p ev below _ T105 (mkF m 175 #[.val (.int p1), .val (.int p2), .val (.int p3), .val (.int p4), .val (.int p5), .val (.int ca), .val (.int cb), .val (.int cc), .val (.int (0 : Int32)), .val (.int (p5 &&& (3 : Int32))), .val (.int qq), .val (.ref co), .val (.long ((fun _ => (0 : Int64)) qq.toNatClampNeg)), .second, .val (.long (((0 : Int64) + (1 : Int64)) + (0 : Int64))), .second] [])
        refine Rch.go (fun _ q => XS.aload X105.here hx rfl (hb hby at_175) rfl rfl q) ?_
        show Rch p ev below _ T105 (mkF m 177 #[.val (.int p1), .val (.int p2), .val (.int p3), .val (.int p4), .val (.int p5), .val (.int ca), .val (.int cb), .val (.int cc), .val (.int (0 : Int32)), .val (.int (p5 &&& (3 : Int32))), .val (.int qq), .val (.ref co), .val (.long ((fun _ => (0 : Int64)) qq.toNatClampNeg)), .second, .val (.long (((0 : Int64) + (1 : Int64)) + (0 : Int64))), .second] [(.ref co)])
        refine Rch.go (fun _ q => XS.iload X105.here hx rfl (hb hby at_177) rfl  q) ?_
        show Rch p ev below _ T105 (mkF m 179 #[.val (.int p1), .val (.int p2), .val (.int p3), .val (.int p4), .val (.int p5), .val (.int ca), .val (.int cb), .val (.int cc), .val (.int (0 : Int32)), .val (.int (p5 &&& (3 : Int32))), .val (.int qq), .val (.ref co), .val (.long ((fun _ => (0 : Int64)) qq.toNatClampNeg)), .second, .val (.long (((0 : Int64) + (1 : Int64)) + (0 : Int64))), .second] [(.int qq), (.ref co)])
        obtain ⟨cq108, kq108, q108a, q108b, q108c⟩ := isOf hZ rfl (own_exa Cc105)
        obtain ⟨_, _, ⟨T108, L108, k108, n108⟩, -, X108, ⟨Lc108, hQ108, l108, y108, z108⟩, st108⟩ := X105.virtualBack hx (y := (⟨"com/example/pocket_reasoner/pocketreasoner/tableau/ConceptCounts", "of", "(I)J"⟩ : MethodName)) (z := (⟨"com/example/pocket_reasoner/pocketreasoner/tableau/ConceptCounts", "of", "(I)J"⟩ : MethodName)) hown (mvT hZ (hw _ (List.mem_of_getElem? (i := 12) rfl))) (mvT hZ (hw _ (List.mem_of_getElem? (i := 13) rfl))) (notFace_of_selects (args := #[]) (mvT hZ (hw _ (List.mem_of_getElem? (i := 15) rfl)))) (mvT hZ (hw _ (List.mem_of_getElem? (i := 15) rfl))) (mvT hZ (hw _ (List.mem_of_getElem? (i := 14) rfl))) (by decide) (backOf (W := 0) (rm5 l Z a0 hw [] co qq zc105 (fun i => if i = cb.toNatClampNeg then (fun i => if i = ca.toNatClampNeg then (fun _ => (0 : Int64)) i + 1 else (fun _ => (0 : Int64)) i) i + 1 else (fun i => if i = ca.toNatClampNeg then (fun _ => (0 : Int64)) i + 1 else (fun _ => (0 : Int64)) i) i) T105.heap n0 Zc105 Cc105 hqq) hZ (hw _ (List.mem_of_getElem? (i := 16) rfl)) (hw _ (List.mem_of_getElem? (i := 2) rfl)) (by decide) (by decide)) q108a q108c (g := (mkF m 179 #[.val (.int p1), .val (.int p2), .val (.int p3), .val (.int p4), .val (.int p5), .val (.int ca), .val (.int cb), .val (.int cc), .val (.int (0 : Int32)), .val (.int (p5 &&& (3 : Int32))), .val (.int qq), .val (.ref co), .val (.long ((fun _ => (0 : Int64)) qq.toNatClampNeg)), .second, .val (.long (((0 : Int64) + (1 : Int64)) + (0 : Int64))), .second] [(.int qq), (.ref co)])) rfl (by rw [hml]; rfl) (Steps.refl _) (argsL := [(.int qq)]) (rest := []) (lenOf own_pd3 rfl) rfl (by show 2 * 0 + _ ≤ _; exact Nat.le_of_eq rfl) (hb hby at_179) (fun _ _ => ⟨rfl, rfl, (by decide : 4 + 0 ≤ _), (by decide : 1085 + 0 ≤ _)⟩)
        dsimp only [Pt.U, Pt.locs, Pt.cells, Pt.slots] at X108 l108 y108 z108 st108 hQ108
        subst l108 y108 z108
        obtain ⟨rfl, Nc, ec⟩ := hQ108
        refine Rch.jump st108 ?_
        show Rch p ev below _ T108 (mkF m 182 #[.val (.int p1), .val (.int p2), .val (.int p3), .val (.int p4), .val (.int p5), .val (.int ca), .val (.int cb), .val (.int cc), .val (.int (0 : Int32)), .val (.int (p5 &&& (3 : Int32))), .val (.int qq), .val (.ref co), .val (.long ((fun _ => (0 : Int64)) qq.toNatClampNeg)), .second, .val (.long (((0 : Int64) + (1 : Int64)) + (0 : Int64))), .second] [(.long ((fun i => if i = cb.toNatClampNeg then (fun i => if i = ca.toNatClampNeg then (fun _ => (0 : Int64)) i + 1 else (fun _ => (0 : Int64)) i) i + 1 else (fun i => if i = ca.toNatClampNeg then (fun _ => (0 : Int64)) i + 1 else (fun _ => (0 : Int64)) i) i) qq.toNatClampNeg))])
        have N108 := Fr.app N105 Nc
        have e108 := ec
        refine Rch.go (fun _ q => XS.lload X108.here hx rfl (hb hby at_182) rfl  q) ?_
        show Rch p ev below _ T108 (mkF m 184 #[.val (.int p1), .val (.int p2), .val (.int p3), .val (.int p4), .val (.int p5), .val (.int ca), .val (.int cb), .val (.int cc), .val (.int (0 : Int32)), .val (.int (p5 &&& (3 : Int32))), .val (.int qq), .val (.ref co), .val (.long ((fun _ => (0 : Int64)) qq.toNatClampNeg)), .second, .val (.long (((0 : Int64) + (1 : Int64)) + (0 : Int64))), .second] [(.long (((0 : Int64) + (1 : Int64)) + (0 : Int64))), (.long ((fun i => if i = cb.toNatClampNeg then (fun i => if i = ca.toNatClampNeg then (fun _ => (0 : Int64)) i + 1 else (fun _ => (0 : Int64)) i) i + 1 else (fun i => if i = ca.toNatClampNeg then (fun _ => (0 : Int64)) i + 1 else (fun _ => (0 : Int64)) i) i) qq.toNatClampNeg))])
        refine Rch.go (fun _ q => XS.lcmp X108.here hx rfl (hb hby at_184) rfl q) ?_
        show Rch p ev below _ T108 (mkF m 185 #[.val (.int p1), .val (.int p2), .val (.int p3), .val (.int p4), .val (.int p5), .val (.int ca), .val (.int cb), .val (.int cc), .val (.int (0 : Int32)), .val (.int (p5 &&& (3 : Int32))), .val (.int qq), .val (.ref co), .val (.long ((fun _ => (0 : Int64)) qq.toNatClampNeg)), .second, .val (.long (((0 : Int64) + (1 : Int64)) + (0 : Int64))), .second] [(.int (lcmpW ((fun i => if i = cb.toNatClampNeg then (fun i => if i = ca.toNatClampNeg then (fun _ => (0 : Int64)) i + 1 else (fun _ => (0 : Int64)) i) i + 1 else (fun i => if i = ca.toNatClampNeg then (fun _ => (0 : Int64)) i + 1 else (fun _ => (0 : Int64)) i) i) qq.toNatClampNeg) (((0 : Int64) + (1 : Int64)) + (0 : Int64))))])
        have qhc127 := eq_false hc127
        have qhc139 := eq_true hc139
        have hq : ((fun i => if i = cb.toNatClampNeg then (fun i => if i = ca.toNatClampNeg then (fun _ => (0 : Int64)) i + 1 else (fun _ => (0 : Int64)) i) i + 1 else (fun i => if i = ca.toNatClampNeg then (fun _ => (0 : Int64)) i + 1 else (fun _ => (0 : Int64)) i) i) qq.toNatClampNeg) = (((0 : Int64) + (1 : Int64)) + (0 : Int64)) := by
          simp only [own_ti qq ca hqq ha.1, own_ti qq cb hqq hb'.1, own_ti qq cc hqq hc'.1, qhc127, qhc139, if_true, if_false]; first | done | rfl | decide
        refine Rch.go (fun _ q => XS.ifNo X108.here hx rfl (hb hby at_185) rfl ((if0 _ _).trans (teq ((lw_eq _ _).mpr hq)).2) q) ?_
        show Rch p ev below _ T108 (mkF m 188 #[.val (.int p1), .val (.int p2), .val (.int p3), .val (.int p4), .val (.int p5), .val (.int ca), .val (.int cb), .val (.int cc), .val (.int (0 : Int32)), .val (.int (p5 &&& (3 : Int32))), .val (.int qq), .val (.ref co), .val (.long ((fun _ => (0 : Int64)) qq.toNatClampNeg)), .second, .val (.long (((0 : Int64) + (1 : Int64)) + (0 : Int64))), .second] [])
        refine Rch.go (fun _ q => XS.iconst X108.here hx rfl (hb hby at_188) q) ?_
        show Rch p ev below _ T108 (mkF m 189 #[.val (.int p1), .val (.int p2), .val (.int p3), .val (.int p4), .val (.int p5), .val (.int ca), .val (.int cb), .val (.int cc), .val (.int (0 : Int32)), .val (.int (p5 &&& (3 : Int32))), .val (.int qq), .val (.ref co), .val (.long ((fun _ => (0 : Int64)) qq.toNatClampNeg)), .second, .val (.long (((0 : Int64) + (1 : Int64)) + (0 : Int64))), .second] [(.int (1 : Int32))])
        refine Rch.go (fun _ q => XS.goto X108.here hx rfl (pc0 := 189) (pc' := 193) rfl (hb hby at_189) (by decide) (by decide) q) ?_
        show Rch p ev below _ T108 (mkF m 193 #[.val (.int p1), .val (.int p2), .val (.int p3), .val (.int p4), .val (.int p5), .val (.int ca), .val (.int cb), .val (.int cc), .val (.int (0 : Int32)), .val (.int (p5 &&& (3 : Int32))), .val (.int qq), .val (.ref co), .val (.long ((fun _ => (0 : Int64)) qq.toNatClampNeg)), .second, .val (.long (((0 : Int64) + (1 : Int64)) + (0 : Int64))), .second] [(.int (1 : Int32))])
        refine Rch.retZ X108 hx hlk Bd.returns (hb hby at_193) (by decide) (by decide) ?_
        unfold Qrm0
        exact ⟨rfl, N108⟩
      · skip
        refine Rch.go (fun _ q => XS.icmpYes X105.here hx rfl (pc0 := 139) (pc' := 146) rfl (hb hby at_139) rfl (feq hc139).2 (by decide) (by decide) q) ?_
        show Rch p ev below _ T105 (mkF m 146 #[.val (.int p1), .val (.int p2), .val (.int p3), .val (.int p4), .val (.int p5), .val (.int ca), .val (.int cb), .val (.int cc), .val (.int (0 : Int32)), .val (.int (p5 &&& (3 : Int32))), .val (.int qq), .val (.ref co), .val (.long ((fun _ => (0 : Int64)) qq.toNatClampNeg)), .second, .unset, .unset] [(.long (0 : Int64))])
        refine Rch.go (fun _ q => XS.lconst X105.here hx rfl (hb hby at_146) q) ?_
        show Rch p ev below _ T105 (mkF m 147 #[.val (.int p1), .val (.int p2), .val (.int p3), .val (.int p4), .val (.int p5), .val (.int ca), .val (.int cb), .val (.int cc), .val (.int (0 : Int32)), .val (.int (p5 &&& (3 : Int32))), .val (.int qq), .val (.ref co), .val (.long ((fun _ => (0 : Int64)) qq.toNatClampNeg)), .second, .unset, .unset] [(.long (0 : Int64)), (.long (0 : Int64))])
        refine Rch.go (fun _ q => XS.ladd X105.here hx rfl (hb hby at_147) rfl q) ?_
        show Rch p ev below _ T105 (mkF m 148 #[.val (.int p1), .val (.int p2), .val (.int p3), .val (.int p4), .val (.int p5), .val (.int ca), .val (.int cb), .val (.int cc), .val (.int (0 : Int32)), .val (.int (p5 &&& (3 : Int32))), .val (.int qq), .val (.ref co), .val (.long ((fun _ => (0 : Int64)) qq.toNatClampNeg)), .second, .unset, .unset] [(.long ((0 : Int64) + (0 : Int64)))])
        refine Rch.go (fun _ q => XS.iload X105.here hx rfl (hb hby at_148) rfl  q) ?_
        show Rch p ev below _ T105 (mkF m 150 #[.val (.int p1), .val (.int p2), .val (.int p3), .val (.int p4), .val (.int p5), .val (.int ca), .val (.int cb), .val (.int cc), .val (.int (0 : Int32)), .val (.int (p5 &&& (3 : Int32))), .val (.int qq), .val (.ref co), .val (.long ((fun _ => (0 : Int64)) qq.toNatClampNeg)), .second, .unset, .unset] [(.int (0 : Int32)), (.long ((0 : Int64) + (0 : Int64)))])
        refine Rch.go (fun _ q => XS.ifYes X105.here hx rfl (pc0 := 150) (pc' := 164) rfl (hb hby at_150) rfl ((if0 _ _).trans (teq (by decide)).1) (by decide) (by decide) q) ?_
        show Rch p ev below _ T105 (mkF m 164 #[.val (.int p1), .val (.int p2), .val (.int p3), .val (.int p4), .val (.int p5), .val (.int ca), .val (.int cb), .val (.int cc), .val (.int (0 : Int32)), .val (.int (p5 &&& (3 : Int32))), .val (.int qq), .val (.ref co), .val (.long ((fun _ => (0 : Int64)) qq.toNatClampNeg)), .second, .unset, .unset] [(.long ((0 : Int64) + (0 : Int64)))])
        refine Rch.go (fun _ q => XS.lconst X105.here hx rfl (hb hby at_164) q) ?_
        show Rch p ev below _ T105 (mkF m 165 #[.val (.int p1), .val (.int p2), .val (.int p3), .val (.int p4), .val (.int p5), .val (.int ca), .val (.int cb), .val (.int cc), .val (.int (0 : Int32)), .val (.int (p5 &&& (3 : Int32))), .val (.int qq), .val (.ref co), .val (.long ((fun _ => (0 : Int64)) qq.toNatClampNeg)), .second, .unset, .unset] [(.long (0 : Int64)), (.long ((0 : Int64) + (0 : Int64)))])
        refine Rch.go (fun _ q => XS.ladd X105.here hx rfl (hb hby at_165) rfl q) ?_
        show Rch p ev below _ T105 (mkF m 166 #[.val (.int p1), .val (.int p2), .val (.int p3), .val (.int p4), .val (.int p5), .val (.int ca), .val (.int cb), .val (.int cc), .val (.int (0 : Int32)), .val (.int (p5 &&& (3 : Int32))), .val (.int qq), .val (.ref co), .val (.long ((fun _ => (0 : Int64)) qq.toNatClampNeg)), .second, .unset, .unset] [(.long (((0 : Int64) + (0 : Int64)) + (0 : Int64)))])
        refine Rch.go (fun _ q => XS.lstore X105.here hx rfl (hb hby at_166) rfl (l' := #[.val (.int p1), .val (.int p2), .val (.int p3), .val (.int p4), .val (.int p5), .val (.int ca), .val (.int cb), .val (.int cc), .val (.int (0 : Int32)), .val (.int (p5 &&& (3 : Int32))), .val (.int qq), .val (.ref co), .val (.long ((fun _ => (0 : Int64)) qq.toNatClampNeg)), .second, .val (.long (((0 : Int64) + (0 : Int64)) + (0 : Int64))), .second]) rfl q) ?_
        show Rch p ev below _ T105 (mkF m 168 #[.val (.int p1), .val (.int p2), .val (.int p3), .val (.int p4), .val (.int p5), .val (.int ca), .val (.int cb), .val (.int cc), .val (.int (0 : Int32)), .val (.int (p5 &&& (3 : Int32))), .val (.int qq), .val (.ref co), .val (.long ((fun _ => (0 : Int64)) qq.toNatClampNeg)), .second, .val (.long (((0 : Int64) + (0 : Int64)) + (0 : Int64))), .second] [])
        refine Rch.go (fun _ q => XS.lload X105.here hx rfl (hb hby at_168) rfl  q) ?_
        show Rch p ev below _ T105 (mkF m 170 #[.val (.int p1), .val (.int p2), .val (.int p3), .val (.int p4), .val (.int p5), .val (.int ca), .val (.int cb), .val (.int cc), .val (.int (0 : Int32)), .val (.int (p5 &&& (3 : Int32))), .val (.int qq), .val (.ref co), .val (.long ((fun _ => (0 : Int64)) qq.toNatClampNeg)), .second, .val (.long (((0 : Int64) + (0 : Int64)) + (0 : Int64))), .second] [(.long ((fun _ => (0 : Int64)) qq.toNatClampNeg))])
        refine Rch.go (fun _ q => XS.lconst X105.here hx rfl (hb hby at_170) q) ?_
        show Rch p ev below _ T105 (mkF m 171 #[.val (.int p1), .val (.int p2), .val (.int p3), .val (.int p4), .val (.int p5), .val (.int ca), .val (.int cb), .val (.int cc), .val (.int (0 : Int32)), .val (.int (p5 &&& (3 : Int32))), .val (.int qq), .val (.ref co), .val (.long ((fun _ => (0 : Int64)) qq.toNatClampNeg)), .second, .val (.long (((0 : Int64) + (0 : Int64)) + (0 : Int64))), .second] [(.long (0 : Int64)), (.long ((fun _ => (0 : Int64)) qq.toNatClampNeg))])
        refine Rch.go (fun _ q => XS.lcmp X105.here hx rfl (hb hby at_171) rfl q) ?_
        show Rch p ev below _ T105 (mkF m 172 #[.val (.int p1), .val (.int p2), .val (.int p3), .val (.int p4), .val (.int p5), .val (.int ca), .val (.int cb), .val (.int cc), .val (.int (0 : Int32)), .val (.int (p5 &&& (3 : Int32))), .val (.int qq), .val (.ref co), .val (.long ((fun _ => (0 : Int64)) qq.toNatClampNeg)), .second, .val (.long (((0 : Int64) + (0 : Int64)) + (0 : Int64))), .second] [(.int (lcmpW ((fun _ => (0 : Int64)) qq.toNatClampNeg) (0 : Int64)))])
        refine Rch.go (fun _ q => XS.ifNo X105.here hx rfl (hb hby at_172) rfl ((if0 _ _).trans (teq ((lw_eq _ _).mpr rfl)).2) q) ?_
        show Rch p ev below _ T105 (mkF m 175 #[.val (.int p1), .val (.int p2), .val (.int p3), .val (.int p4), .val (.int p5), .val (.int ca), .val (.int cb), .val (.int cc), .val (.int (0 : Int32)), .val (.int (p5 &&& (3 : Int32))), .val (.int qq), .val (.ref co), .val (.long ((fun _ => (0 : Int64)) qq.toNatClampNeg)), .second, .val (.long (((0 : Int64) + (0 : Int64)) + (0 : Int64))), .second] [])
        refine Rch.go (fun _ q => XS.aload X105.here hx rfl (hb hby at_175) rfl rfl q) ?_
        show Rch p ev below _ T105 (mkF m 177 #[.val (.int p1), .val (.int p2), .val (.int p3), .val (.int p4), .val (.int p5), .val (.int ca), .val (.int cb), .val (.int cc), .val (.int (0 : Int32)), .val (.int (p5 &&& (3 : Int32))), .val (.int qq), .val (.ref co), .val (.long ((fun _ => (0 : Int64)) qq.toNatClampNeg)), .second, .val (.long (((0 : Int64) + (0 : Int64)) + (0 : Int64))), .second] [(.ref co)])
        refine Rch.go (fun _ q => XS.iload X105.here hx rfl (hb hby at_177) rfl  q) ?_
        show Rch p ev below _ T105 (mkF m 179 #[.val (.int p1), .val (.int p2), .val (.int p3), .val (.int p4), .val (.int p5), .val (.int ca), .val (.int cb), .val (.int cc), .val (.int (0 : Int32)), .val (.int (p5 &&& (3 : Int32))), .val (.int qq), .val (.ref co), .val (.long ((fun _ => (0 : Int64)) qq.toNatClampNeg)), .second, .val (.long (((0 : Int64) + (0 : Int64)) + (0 : Int64))), .second] [(.int qq), (.ref co)])
        obtain ⟨cq109, kq109, q109a, q109b, q109c⟩ := isOf hZ rfl (own_exa Cc105)
        obtain ⟨_, _, ⟨T109, L109, k109, n109⟩, -, X109, ⟨Lc109, hQ109, l109, y109, z109⟩, st109⟩ := X105.virtualBack hx (y := (⟨"com/example/pocket_reasoner/pocketreasoner/tableau/ConceptCounts", "of", "(I)J"⟩ : MethodName)) (z := (⟨"com/example/pocket_reasoner/pocketreasoner/tableau/ConceptCounts", "of", "(I)J"⟩ : MethodName)) hown (mvT hZ (hw _ (List.mem_of_getElem? (i := 12) rfl))) (mvT hZ (hw _ (List.mem_of_getElem? (i := 13) rfl))) (notFace_of_selects (args := #[]) (mvT hZ (hw _ (List.mem_of_getElem? (i := 15) rfl)))) (mvT hZ (hw _ (List.mem_of_getElem? (i := 15) rfl))) (mvT hZ (hw _ (List.mem_of_getElem? (i := 14) rfl))) (by decide) (backOf (W := 0) (rm5 l Z a0 hw [] co qq zc105 (fun i => if i = cb.toNatClampNeg then (fun i => if i = ca.toNatClampNeg then (fun _ => (0 : Int64)) i + 1 else (fun _ => (0 : Int64)) i) i + 1 else (fun i => if i = ca.toNatClampNeg then (fun _ => (0 : Int64)) i + 1 else (fun _ => (0 : Int64)) i) i) T105.heap n0 Zc105 Cc105 hqq) hZ (hw _ (List.mem_of_getElem? (i := 16) rfl)) (hw _ (List.mem_of_getElem? (i := 2) rfl)) (by decide) (by decide)) q109a q109c (g := (mkF m 179 #[.val (.int p1), .val (.int p2), .val (.int p3), .val (.int p4), .val (.int p5), .val (.int ca), .val (.int cb), .val (.int cc), .val (.int (0 : Int32)), .val (.int (p5 &&& (3 : Int32))), .val (.int qq), .val (.ref co), .val (.long ((fun _ => (0 : Int64)) qq.toNatClampNeg)), .second, .val (.long (((0 : Int64) + (0 : Int64)) + (0 : Int64))), .second] [(.int qq), (.ref co)])) rfl (by rw [hml]; rfl) (Steps.refl _) (argsL := [(.int qq)]) (rest := []) (lenOf own_pd3 rfl) rfl (by show 2 * 0 + _ ≤ _; exact Nat.le_of_eq rfl) (hb hby at_179) (fun _ _ => ⟨rfl, rfl, (by decide : 4 + 0 ≤ _), (by decide : 1085 + 0 ≤ _)⟩)
        dsimp only [Pt.U, Pt.locs, Pt.cells, Pt.slots] at X109 l109 y109 z109 st109 hQ109
        subst l109 y109 z109
        obtain ⟨rfl, Nc, ec⟩ := hQ109
        refine Rch.jump st109 ?_
        show Rch p ev below _ T109 (mkF m 182 #[.val (.int p1), .val (.int p2), .val (.int p3), .val (.int p4), .val (.int p5), .val (.int ca), .val (.int cb), .val (.int cc), .val (.int (0 : Int32)), .val (.int (p5 &&& (3 : Int32))), .val (.int qq), .val (.ref co), .val (.long ((fun _ => (0 : Int64)) qq.toNatClampNeg)), .second, .val (.long (((0 : Int64) + (0 : Int64)) + (0 : Int64))), .second] [(.long ((fun i => if i = cb.toNatClampNeg then (fun i => if i = ca.toNatClampNeg then (fun _ => (0 : Int64)) i + 1 else (fun _ => (0 : Int64)) i) i + 1 else (fun i => if i = ca.toNatClampNeg then (fun _ => (0 : Int64)) i + 1 else (fun _ => (0 : Int64)) i) i) qq.toNatClampNeg))])
        have N109 := Fr.app N105 Nc
        have e109 := ec
        refine Rch.go (fun _ q => XS.lload X109.here hx rfl (hb hby at_182) rfl  q) ?_
        show Rch p ev below _ T109 (mkF m 184 #[.val (.int p1), .val (.int p2), .val (.int p3), .val (.int p4), .val (.int p5), .val (.int ca), .val (.int cb), .val (.int cc), .val (.int (0 : Int32)), .val (.int (p5 &&& (3 : Int32))), .val (.int qq), .val (.ref co), .val (.long ((fun _ => (0 : Int64)) qq.toNatClampNeg)), .second, .val (.long (((0 : Int64) + (0 : Int64)) + (0 : Int64))), .second] [(.long (((0 : Int64) + (0 : Int64)) + (0 : Int64))), (.long ((fun i => if i = cb.toNatClampNeg then (fun i => if i = ca.toNatClampNeg then (fun _ => (0 : Int64)) i + 1 else (fun _ => (0 : Int64)) i) i + 1 else (fun i => if i = ca.toNatClampNeg then (fun _ => (0 : Int64)) i + 1 else (fun _ => (0 : Int64)) i) i) qq.toNatClampNeg))])
        refine Rch.go (fun _ q => XS.lcmp X109.here hx rfl (hb hby at_184) rfl q) ?_
        show Rch p ev below _ T109 (mkF m 185 #[.val (.int p1), .val (.int p2), .val (.int p3), .val (.int p4), .val (.int p5), .val (.int ca), .val (.int cb), .val (.int cc), .val (.int (0 : Int32)), .val (.int (p5 &&& (3 : Int32))), .val (.int qq), .val (.ref co), .val (.long ((fun _ => (0 : Int64)) qq.toNatClampNeg)), .second, .val (.long (((0 : Int64) + (0 : Int64)) + (0 : Int64))), .second] [(.int (lcmpW ((fun i => if i = cb.toNatClampNeg then (fun i => if i = ca.toNatClampNeg then (fun _ => (0 : Int64)) i + 1 else (fun _ => (0 : Int64)) i) i + 1 else (fun i => if i = ca.toNatClampNeg then (fun _ => (0 : Int64)) i + 1 else (fun _ => (0 : Int64)) i) i) qq.toNatClampNeg) (((0 : Int64) + (0 : Int64)) + (0 : Int64))))])
        have qhc127 := eq_false hc127
        have qhc139 := eq_false hc139
        have hq : ((fun i => if i = cb.toNatClampNeg then (fun i => if i = ca.toNatClampNeg then (fun _ => (0 : Int64)) i + 1 else (fun _ => (0 : Int64)) i) i + 1 else (fun i => if i = ca.toNatClampNeg then (fun _ => (0 : Int64)) i + 1 else (fun _ => (0 : Int64)) i) i) qq.toNatClampNeg) = (((0 : Int64) + (0 : Int64)) + (0 : Int64)) := by
          simp only [own_ti qq ca hqq ha.1, own_ti qq cb hqq hb'.1, own_ti qq cc hqq hc'.1, qhc127, qhc139, if_true, if_false]; first | done | rfl | decide
        refine Rch.go (fun _ q => XS.ifNo X109.here hx rfl (hb hby at_185) rfl ((if0 _ _).trans (teq ((lw_eq _ _).mpr hq)).2) q) ?_
        show Rch p ev below _ T109 (mkF m 188 #[.val (.int p1), .val (.int p2), .val (.int p3), .val (.int p4), .val (.int p5), .val (.int ca), .val (.int cb), .val (.int cc), .val (.int (0 : Int32)), .val (.int (p5 &&& (3 : Int32))), .val (.int qq), .val (.ref co), .val (.long ((fun _ => (0 : Int64)) qq.toNatClampNeg)), .second, .val (.long (((0 : Int64) + (0 : Int64)) + (0 : Int64))), .second] [])
        refine Rch.go (fun _ q => XS.iconst X109.here hx rfl (hb hby at_188) q) ?_
        show Rch p ev below _ T109 (mkF m 189 #[.val (.int p1), .val (.int p2), .val (.int p3), .val (.int p4), .val (.int p5), .val (.int ca), .val (.int cb), .val (.int cc), .val (.int (0 : Int32)), .val (.int (p5 &&& (3 : Int32))), .val (.int qq), .val (.ref co), .val (.long ((fun _ => (0 : Int64)) qq.toNatClampNeg)), .second, .val (.long (((0 : Int64) + (0 : Int64)) + (0 : Int64))), .second] [(.int (1 : Int32))])
        refine Rch.go (fun _ q => XS.goto X109.here hx rfl (pc0 := 189) (pc' := 193) rfl (hb hby at_189) (by decide) (by decide) q) ?_
        show Rch p ev below _ T109 (mkF m 193 #[.val (.int p1), .val (.int p2), .val (.int p3), .val (.int p4), .val (.int p5), .val (.int ca), .val (.int cb), .val (.int cc), .val (.int (0 : Int32)), .val (.int (p5 &&& (3 : Int32))), .val (.int qq), .val (.ref co), .val (.long ((fun _ => (0 : Int64)) qq.toNatClampNeg)), .second, .val (.long (((0 : Int64) + (0 : Int64)) + (0 : Int64))), .second] [(.int (1 : Int32))])
        refine Rch.retZ X109 hx hlk Bd.returns (hb hby at_193) (by decide) (by decide) ?_
        unfold Qrm0
        exact ⟨rfl, N109⟩
  have tail1 : ∀ (qq : Int32) (hqq : 0 ≤ qq.toInt), Rch p ev below (EndQ (Qrm0 Z p1 p2 p3 p4 p5  h0 n0) s room_1.cells room_1.slots) s₁ (mkF m 79 #[.val (.int p1), .val (.int p2), .val (.int p3), .val (.int p4), .val (.int p5), .val (.int ca), .val (.int cb), .val (.int cc), .val (.int (1 : Int32)), .val (.int (p5 &&& (3 : Int32))), .val (.int qq), .unset, .unset, .unset, .unset, .unset] []) := by
    intro qq hqq
    show Rch p ev below _ s₁ (mkF m 79 #[.val (.int p1), .val (.int p2), .val (.int p3), .val (.int p4), .val (.int p5), .val (.int ca), .val (.int cb), .val (.int cc), .val (.int (1 : Int32)), .val (.int (p5 &&& (3 : Int32))), .val (.int qq), .unset, .unset, .unset, .unset, .unset] [])
    obtain ⟨T110, h110, X110, e110, E110, A110, D110, -, st110⟩ := newO X0 hx hZ hown (hw _ (List.mem_of_getElem? (i := 0) rfl)) (hw _ (List.mem_of_getElem? (i := 1) rfl)) (hw _ (List.mem_of_getElem? (i := 2) rfl)) e0 (g := (mkF m 79 #[.val (.int p1), .val (.int p2), .val (.int p3), .val (.int p4), .val (.int p5), .val (.int ca), .val (.int cb), .val (.int cc), .val (.int (1 : Int32)), .val (.int (p5 &&& (3 : Int32))), .val (.int qq), .unset, .unset, .unset, .unset, .unset] [])) rfl (hb hby at_79) (by decide) (by decide)
    obtain ⟨co, g110⟩ : ∃ q, q = Array.size h0 := ⟨_, rfl⟩
    rw [← g110] at A110 D110 st110
    have F_counts_110 : Fld Z h110 co "com/example/pocket_reasoner/pocketreasoner/tableau/ConceptCounts" "counts" "[J" .null := D110 (Or.inl (hw _ (List.mem_of_getElem? (i := 11) rfl))) (ty := (.array .long)) (by decide)
    have le_co : n0 ≤ co := by rw [g110]; exact Z0
    have Z110 : n0 ≤ h110.size := Nat.le_trans Z0 E110.1
    refine Rch.go st110 ?_
    show Rch p ev below _ T110 (mkF m 82 #[.val (.int p1), .val (.int p2), .val (.int p3), .val (.int p4), .val (.int p5), .val (.int ca), .val (.int cb), .val (.int cc), .val (.int (1 : Int32)), .val (.int (p5 &&& (3 : Int32))), .val (.int qq), .unset, .unset, .unset, .unset, .unset] [(.ref co)])
    refine Rch.go (fun _ q => XS.dup X110.here hx rfl (hb hby at_82) rfl rfl q) ?_
    show Rch p ev below _ T110 (mkF m 83 #[.val (.int p1), .val (.int p2), .val (.int p3), .val (.int p4), .val (.int p5), .val (.int ca), .val (.int cb), .val (.int cc), .val (.int (1 : Int32)), .val (.int (p5 &&& (3 : Int32))), .val (.int qq), .unset, .unset, .unset, .unset, .unset] [(.ref co), (.ref co)])
    obtain ⟨_, _, ⟨T111, L111, k111, n111⟩, -, X111, ⟨Lc111, hQ111, l111, y111, z111⟩, st111⟩ := X110.specialBack hx (y := (⟨"com/example/pocket_reasoner/pocketreasoner/tableau/ConceptCounts", "<init>", "()V"⟩ : MethodName)) rfl hown (mvT hZ (hw _ (List.mem_of_getElem? (i := 3) rfl))) (mvT hZ (hw _ (List.mem_of_getElem? (i := 4) rfl))) (mvT hZ (hw _ (List.mem_of_getElem? (i := 5) rfl))) (by decide) (backOf (W := 1) (rm4 l Z a0 hw [] co h110 n0 Z110 F_counts_110 A110 le_co) hZ (hw _ (List.mem_of_getElem? (i := 5) rfl)) (hw _ (List.mem_of_getElem? (i := 2) rfl)) (by decide) (by decide)) (g := (mkF m 83 #[.val (.int p1), .val (.int p2), .val (.int p3), .val (.int p4), .val (.int p5), .val (.int ca), .val (.int cb), .val (.int cc), .val (.int (1 : Int32)), .val (.int (p5 &&& (3 : Int32))), .val (.int qq), .unset, .unset, .unset, .unset, .unset] [(.ref co), (.ref co)])) rfl (by rw [hml]; rfl) (Steps.refl _) (a := co) (argsL := []) (rest := [(.ref co)]) (lenOf own_pd2 rfl) rfl (by show 2 * 0 + _ ≤ _; exact Nat.le_of_eq rfl) (hb hby at_83) (fun _ _ => ⟨rfl, e110, (by decide : 1 + 1 ≤ _), (by decide : 1 + 64 ≤ _)⟩)
    dsimp only [Pt.U, Pt.locs, Pt.cells, Pt.slots] at X111 l111 y111 z111 st111 hQ111
    subst l111 y111 z111
    obtain ⟨rfl, Nc, Zc, Cc⟩ := hQ111
    refine Rch.jump st111 ?_
    show Rch p ev below _ T111 (mkF m 86 #[.val (.int p1), .val (.int p2), .val (.int p3), .val (.int p4), .val (.int p5), .val (.int ca), .val (.int cb), .val (.int cc), .val (.int (1 : Int32)), .val (.int (p5 &&& (3 : Int32))), .val (.int qq), .unset, .unset, .unset, .unset, .unset] [(.ref co)])
    have N111 := Fr.app N0 Nc
    refine Rch.go (fun _ q => XS.astore X111.here hx rfl (hb hby at_86) rfl rfl (l' := #[.val (.int p1), .val (.int p2), .val (.int p3), .val (.int p4), .val (.int p5), .val (.int ca), .val (.int cb), .val (.int cc), .val (.int (1 : Int32)), .val (.int (p5 &&& (3 : Int32))), .val (.int qq), .val (.ref co), .unset, .unset, .unset, .unset]) rfl q) ?_
    show Rch p ev below _ T111 (mkF m 88 #[.val (.int p1), .val (.int p2), .val (.int p3), .val (.int p4), .val (.int p5), .val (.int ca), .val (.int cb), .val (.int cc), .val (.int (1 : Int32)), .val (.int (p5 &&& (3 : Int32))), .val (.int qq), .val (.ref co), .unset, .unset, .unset, .unset] [])
    refine Rch.go (fun _ q => XS.aload X111.here hx rfl (hb hby at_88) rfl rfl q) ?_
    show Rch p ev below _ T111 (mkF m 90 #[.val (.int p1), .val (.int p2), .val (.int p3), .val (.int p4), .val (.int p5), .val (.int ca), .val (.int cb), .val (.int cc), .val (.int (1 : Int32)), .val (.int (p5 &&& (3 : Int32))), .val (.int qq), .val (.ref co), .unset, .unset, .unset, .unset] [(.ref co)])
    refine Rch.go (fun _ q => XS.iload X111.here hx rfl (hb hby at_90) rfl  q) ?_
    show Rch p ev below _ T111 (mkF m 92 #[.val (.int p1), .val (.int p2), .val (.int p3), .val (.int p4), .val (.int p5), .val (.int ca), .val (.int cb), .val (.int cc), .val (.int (1 : Int32)), .val (.int (p5 &&& (3 : Int32))), .val (.int qq), .val (.ref co), .unset, .unset, .unset, .unset] [(.int qq), (.ref co)])
    obtain ⟨cq112, kq112, q112a, q112b, q112c⟩ := isOf hZ rfl (own_exa Cc)
    obtain ⟨_, _, ⟨T112, L112, k112, n112⟩, -, X112, ⟨Lc112, hQ112, l112, y112, z112⟩, st112⟩ := X111.virtualBack hx (y := (⟨"com/example/pocket_reasoner/pocketreasoner/tableau/ConceptCounts", "of", "(I)J"⟩ : MethodName)) (z := (⟨"com/example/pocket_reasoner/pocketreasoner/tableau/ConceptCounts", "of", "(I)J"⟩ : MethodName)) hown (mvT hZ (hw _ (List.mem_of_getElem? (i := 12) rfl))) (mvT hZ (hw _ (List.mem_of_getElem? (i := 13) rfl))) (notFace_of_selects (args := #[]) (mvT hZ (hw _ (List.mem_of_getElem? (i := 15) rfl)))) (mvT hZ (hw _ (List.mem_of_getElem? (i := 15) rfl))) (mvT hZ (hw _ (List.mem_of_getElem? (i := 14) rfl))) (by decide) (backOf (W := 0) (rm5 l Z a0 hw [] co qq 64 (fun _ => (0 : Int64)) T111.heap n0 Zc Cc hqq) hZ (hw _ (List.mem_of_getElem? (i := 16) rfl)) (hw _ (List.mem_of_getElem? (i := 2) rfl)) (by decide) (by decide)) q112a q112c (g := (mkF m 92 #[.val (.int p1), .val (.int p2), .val (.int p3), .val (.int p4), .val (.int p5), .val (.int ca), .val (.int cb), .val (.int cc), .val (.int (1 : Int32)), .val (.int (p5 &&& (3 : Int32))), .val (.int qq), .val (.ref co), .unset, .unset, .unset, .unset] [(.int qq), (.ref co)])) rfl (by rw [hml]; rfl) (Steps.refl _) (argsL := [(.int qq)]) (rest := []) (lenOf own_pd3 rfl) rfl (by show 2 * 0 + _ ≤ _; exact Nat.le_of_eq rfl) (hb hby at_92) (fun _ _ => ⟨rfl, rfl, (by decide : 2 + 0 ≤ _), (by decide : 65 + 0 ≤ _)⟩)
    dsimp only [Pt.U, Pt.locs, Pt.cells, Pt.slots] at X112 l112 y112 z112 st112 hQ112
    subst l112 y112 z112
    obtain ⟨rfl, Nc, ec⟩ := hQ112
    refine Rch.jump st112 ?_
    show Rch p ev below _ T112 (mkF m 95 #[.val (.int p1), .val (.int p2), .val (.int p3), .val (.int p4), .val (.int p5), .val (.int ca), .val (.int cb), .val (.int cc), .val (.int (1 : Int32)), .val (.int (p5 &&& (3 : Int32))), .val (.int qq), .val (.ref co), .unset, .unset, .unset, .unset] [(.long ((fun _ => (0 : Int64)) qq.toNatClampNeg))])
    have N112 := Fr.app N111 Nc
    have e112 := ec
    refine Rch.go (fun _ q => XS.lstore X112.here hx rfl (hb hby at_95) rfl (l' := #[.val (.int p1), .val (.int p2), .val (.int p3), .val (.int p4), .val (.int p5), .val (.int ca), .val (.int cb), .val (.int cc), .val (.int (1 : Int32)), .val (.int (p5 &&& (3 : Int32))), .val (.int qq), .val (.ref co), .val (.long ((fun _ => (0 : Int64)) qq.toNatClampNeg)), .second, .unset, .unset]) rfl q) ?_
    show Rch p ev below _ T112 (mkF m 97 #[.val (.int p1), .val (.int p2), .val (.int p3), .val (.int p4), .val (.int p5), .val (.int ca), .val (.int cb), .val (.int cc), .val (.int (1 : Int32)), .val (.int (p5 &&& (3 : Int32))), .val (.int qq), .val (.ref co), .val (.long ((fun _ => (0 : Int64)) qq.toNatClampNeg)), .second, .unset, .unset] [])
    refine Rch.go (fun _ q => XS.aload X112.here hx rfl (hb hby at_97) rfl rfl q) ?_
    show Rch p ev below _ T112 (mkF m 99 #[.val (.int p1), .val (.int p2), .val (.int p3), .val (.int p4), .val (.int p5), .val (.int ca), .val (.int cb), .val (.int cc), .val (.int (1 : Int32)), .val (.int (p5 &&& (3 : Int32))), .val (.int qq), .val (.ref co), .val (.long ((fun _ => (0 : Int64)) qq.toNatClampNeg)), .second, .unset, .unset] [(.ref co)])
    refine Rch.go (fun _ q => XS.iload X112.here hx rfl (hb hby at_99) rfl  q) ?_
    show Rch p ev below _ T112 (mkF m 101 #[.val (.int p1), .val (.int p2), .val (.int p3), .val (.int p4), .val (.int p5), .val (.int ca), .val (.int cb), .val (.int cc), .val (.int (1 : Int32)), .val (.int (p5 &&& (3 : Int32))), .val (.int qq), .val (.ref co), .val (.long ((fun _ => (0 : Int64)) qq.toNatClampNeg)), .second, .unset, .unset] [(.int ca), (.ref co)])
    obtain ⟨cq113, kq113, q113a, q113b, q113c⟩ := isOf hZ e112 (own_exa Cc)
    obtain ⟨_, _, ⟨T113, L113, k113, n113⟩, -, X113, ⟨Lc113, hQ113, l113, y113, z113⟩, st113⟩ := X112.virtualBack hx (y := (⟨"com/example/pocket_reasoner/pocketreasoner/tableau/ConceptCounts", "increment", "(I)V"⟩ : MethodName)) (z := (⟨"com/example/pocket_reasoner/pocketreasoner/tableau/ConceptCounts", "increment", "(I)V"⟩ : MethodName)) hown (mvT hZ (hw _ (List.mem_of_getElem? (i := 17) rfl))) (mvT hZ (hw _ (List.mem_of_getElem? (i := 18) rfl))) (notFace_of_selects (args := #[]) (mvT hZ (hw _ (List.mem_of_getElem? (i := 20) rfl)))) (mvT hZ (hw _ (List.mem_of_getElem? (i := 20) rfl))) (mvT hZ (hw _ (List.mem_of_getElem? (i := 19) rfl))) (by decide) (backOf (W := 0) (rm6 l Z a0 hw [] co ca 64 (fun _ => (0 : Int64)) T111.heap n0 Zc Cc ha.1 ha.2) hZ (hw _ (List.mem_of_getElem? (i := 21) rfl)) (hw _ (List.mem_of_getElem? (i := 2) rfl)) (by decide) (by decide)) q113a q113c (g := (mkF m 101 #[.val (.int p1), .val (.int p2), .val (.int p3), .val (.int p4), .val (.int p5), .val (.int ca), .val (.int cb), .val (.int cc), .val (.int (1 : Int32)), .val (.int (p5 &&& (3 : Int32))), .val (.int qq), .val (.ref co), .val (.long ((fun _ => (0 : Int64)) qq.toNatClampNeg)), .second, .unset, .unset] [(.int ca), (.ref co)])) rfl (by rw [hml]; rfl) (Steps.refl _) (argsL := [(.int ca)]) (rest := []) (lenOf own_pd4 rfl) rfl (by show 2 * 0 + _ ≤ _; exact Nat.le_of_eq rfl) (hb hby at_101) (fun _ _ => ⟨rfl, e112, (by decide : 2 + 1 ≤ _), (by decide : 65 + 510 ≤ _)⟩)
    dsimp only [Pt.U, Pt.locs, Pt.cells, Pt.slots] at X113 l113 y113 z113 st113 hQ113
    subst l113 y113 z113
    obtain ⟨rfl, Nc113, Zc113, zc113, Cc113⟩ := hQ113
    refine Rch.jump st113 ?_
    show Rch p ev below _ T113 (mkF m 104 #[.val (.int p1), .val (.int p2), .val (.int p3), .val (.int p4), .val (.int p5), .val (.int ca), .val (.int cb), .val (.int cc), .val (.int (1 : Int32)), .val (.int (p5 &&& (3 : Int32))), .val (.int qq), .val (.ref co), .val (.long ((fun _ => (0 : Int64)) qq.toNatClampNeg)), .second, .unset, .unset] [])
    have N113 := Fr.app N112 Nc113
    refine Rch.go (fun _ q => XS.aload X113.here hx rfl (hb hby at_104) rfl rfl q) ?_
    show Rch p ev below _ T113 (mkF m 106 #[.val (.int p1), .val (.int p2), .val (.int p3), .val (.int p4), .val (.int p5), .val (.int ca), .val (.int cb), .val (.int cc), .val (.int (1 : Int32)), .val (.int (p5 &&& (3 : Int32))), .val (.int qq), .val (.ref co), .val (.long ((fun _ => (0 : Int64)) qq.toNatClampNeg)), .second, .unset, .unset] [(.ref co)])
    refine Rch.go (fun _ q => XS.iload X113.here hx rfl (hb hby at_106) rfl  q) ?_
    show Rch p ev below _ T113 (mkF m 108 #[.val (.int p1), .val (.int p2), .val (.int p3), .val (.int p4), .val (.int p5), .val (.int ca), .val (.int cb), .val (.int cc), .val (.int (1 : Int32)), .val (.int (p5 &&& (3 : Int32))), .val (.int qq), .val (.ref co), .val (.long ((fun _ => (0 : Int64)) qq.toNatClampNeg)), .second, .unset, .unset] [(.int cb), (.ref co)])
    obtain ⟨cq114, kq114, q114a, q114b, q114c⟩ := isOf hZ rfl (own_exa Cc113)
    obtain ⟨_, _, ⟨T114, L114, k114, n114⟩, -, X114, ⟨Lc114, hQ114, l114, y114, z114⟩, st114⟩ := X113.virtualBack hx (y := (⟨"com/example/pocket_reasoner/pocketreasoner/tableau/ConceptCounts", "increment", "(I)V"⟩ : MethodName)) (z := (⟨"com/example/pocket_reasoner/pocketreasoner/tableau/ConceptCounts", "increment", "(I)V"⟩ : MethodName)) hown (mvT hZ (hw _ (List.mem_of_getElem? (i := 17) rfl))) (mvT hZ (hw _ (List.mem_of_getElem? (i := 18) rfl))) (notFace_of_selects (args := #[]) (mvT hZ (hw _ (List.mem_of_getElem? (i := 20) rfl)))) (mvT hZ (hw _ (List.mem_of_getElem? (i := 20) rfl))) (mvT hZ (hw _ (List.mem_of_getElem? (i := 19) rfl))) (by decide) (backOf (W := 0) (rm6 l Z a0 hw [] co cb zc113 (fun i => if i = ca.toNatClampNeg then (fun _ => (0 : Int64)) i + 1 else (fun _ => (0 : Int64)) i) T113.heap n0 Zc113 Cc113 hb'.1 hb'.2) hZ (hw _ (List.mem_of_getElem? (i := 21) rfl)) (hw _ (List.mem_of_getElem? (i := 2) rfl)) (by decide) (by decide)) q114a q114c (g := (mkF m 108 #[.val (.int p1), .val (.int p2), .val (.int p3), .val (.int p4), .val (.int p5), .val (.int ca), .val (.int cb), .val (.int cc), .val (.int (1 : Int32)), .val (.int (p5 &&& (3 : Int32))), .val (.int qq), .val (.ref co), .val (.long ((fun _ => (0 : Int64)) qq.toNatClampNeg)), .second, .unset, .unset] [(.int cb), (.ref co)])) rfl (by rw [hml]; rfl) (Steps.refl _) (argsL := [(.int cb)]) (rest := []) (lenOf own_pd4 rfl) rfl (by show 2 * 0 + _ ≤ _; exact Nat.le_of_eq rfl) (hb hby at_108) (fun _ _ => ⟨rfl, rfl, (by decide : 3 + 1 ≤ _), (by decide : 575 + 510 ≤ _)⟩)
    dsimp only [Pt.U, Pt.locs, Pt.cells, Pt.slots] at X114 l114 y114 z114 st114 hQ114
    subst l114 y114 z114
    obtain ⟨rfl, Nc114, Zc114, zc114, Cc114⟩ := hQ114
    refine Rch.jump st114 ?_
    show Rch p ev below _ T114 (mkF m 111 #[.val (.int p1), .val (.int p2), .val (.int p3), .val (.int p4), .val (.int p5), .val (.int ca), .val (.int cb), .val (.int cc), .val (.int (1 : Int32)), .val (.int (p5 &&& (3 : Int32))), .val (.int qq), .val (.ref co), .val (.long ((fun _ => (0 : Int64)) qq.toNatClampNeg)), .second, .unset, .unset] [])
    have N114 := Fr.app N113 Nc114
    refine Rch.go (fun _ q => XS.iload X114.here hx rfl (hb hby at_111) rfl  q) ?_
    show Rch p ev below _ T114 (mkF m 113 #[.val (.int p1), .val (.int p2), .val (.int p3), .val (.int p4), .val (.int p5), .val (.int ca), .val (.int cb), .val (.int cc), .val (.int (1 : Int32)), .val (.int (p5 &&& (3 : Int32))), .val (.int qq), .val (.ref co), .val (.long ((fun _ => (0 : Int64)) qq.toNatClampNeg)), .second, .unset, .unset] [(.int (1 : Int32))])
    refine Rch.go (fun _ q => XS.ifNo X114.here hx rfl (hb hby at_113) rfl ((if0 _ _).trans (feq (by decide)).1) q) ?_
    show Rch p ev below _ T114 (mkF m 116 #[.val (.int p1), .val (.int p2), .val (.int p3), .val (.int p4), .val (.int p5), .val (.int ca), .val (.int cb), .val (.int cc), .val (.int (1 : Int32)), .val (.int (p5 &&& (3 : Int32))), .val (.int qq), .val (.ref co), .val (.long ((fun _ => (0 : Int64)) qq.toNatClampNeg)), .second, .unset, .unset] [])
    refine Rch.go (fun _ q => XS.aload X114.here hx rfl (hb hby at_116) rfl rfl q) ?_
    show Rch p ev below _ T114 (mkF m 118 #[.val (.int p1), .val (.int p2), .val (.int p3), .val (.int p4), .val (.int p5), .val (.int ca), .val (.int cb), .val (.int cc), .val (.int (1 : Int32)), .val (.int (p5 &&& (3 : Int32))), .val (.int qq), .val (.ref co), .val (.long ((fun _ => (0 : Int64)) qq.toNatClampNeg)), .second, .unset, .unset] [(.ref co)])
    refine Rch.go (fun _ q => XS.iload X114.here hx rfl (hb hby at_118) rfl  q) ?_
    show Rch p ev below _ T114 (mkF m 120 #[.val (.int p1), .val (.int p2), .val (.int p3), .val (.int p4), .val (.int p5), .val (.int ca), .val (.int cb), .val (.int cc), .val (.int (1 : Int32)), .val (.int (p5 &&& (3 : Int32))), .val (.int qq), .val (.ref co), .val (.long ((fun _ => (0 : Int64)) qq.toNatClampNeg)), .second, .unset, .unset] [(.int cc), (.ref co)])
    obtain ⟨cq115, kq115, q115a, q115b, q115c⟩ := isOf hZ rfl (own_exa Cc114)
    obtain ⟨_, _, ⟨T115, L115, k115, n115⟩, -, X115, ⟨Lc115, hQ115, l115, y115, z115⟩, st115⟩ := X114.virtualBack hx (y := (⟨"com/example/pocket_reasoner/pocketreasoner/tableau/ConceptCounts", "increment", "(I)V"⟩ : MethodName)) (z := (⟨"com/example/pocket_reasoner/pocketreasoner/tableau/ConceptCounts", "increment", "(I)V"⟩ : MethodName)) hown (mvT hZ (hw _ (List.mem_of_getElem? (i := 17) rfl))) (mvT hZ (hw _ (List.mem_of_getElem? (i := 18) rfl))) (notFace_of_selects (args := #[]) (mvT hZ (hw _ (List.mem_of_getElem? (i := 20) rfl)))) (mvT hZ (hw _ (List.mem_of_getElem? (i := 20) rfl))) (mvT hZ (hw _ (List.mem_of_getElem? (i := 19) rfl))) (by decide) (backOf (W := 0) (rm6 l Z a0 hw [] co cc zc114 (fun i => if i = cb.toNatClampNeg then (fun i => if i = ca.toNatClampNeg then (fun _ => (0 : Int64)) i + 1 else (fun _ => (0 : Int64)) i) i + 1 else (fun i => if i = ca.toNatClampNeg then (fun _ => (0 : Int64)) i + 1 else (fun _ => (0 : Int64)) i) i) T114.heap n0 Zc114 Cc114 hc'.1 hc'.2) hZ (hw _ (List.mem_of_getElem? (i := 21) rfl)) (hw _ (List.mem_of_getElem? (i := 2) rfl)) (by decide) (by decide)) q115a q115c (g := (mkF m 120 #[.val (.int p1), .val (.int p2), .val (.int p3), .val (.int p4), .val (.int p5), .val (.int ca), .val (.int cb), .val (.int cc), .val (.int (1 : Int32)), .val (.int (p5 &&& (3 : Int32))), .val (.int qq), .val (.ref co), .val (.long ((fun _ => (0 : Int64)) qq.toNatClampNeg)), .second, .unset, .unset] [(.int cc), (.ref co)])) rfl (by rw [hml]; rfl) (Steps.refl _) (argsL := [(.int cc)]) (rest := []) (lenOf own_pd4 rfl) rfl (by show 2 * 0 + _ ≤ _; exact Nat.le_of_eq rfl) (hb hby at_120) (fun _ _ => ⟨rfl, rfl, (by decide : 4 + 1 ≤ _), (by decide : 1085 + 510 ≤ _)⟩)
    dsimp only [Pt.U, Pt.locs, Pt.cells, Pt.slots] at X115 l115 y115 z115 st115 hQ115
    subst l115 y115 z115
    obtain ⟨rfl, Nc115, Zc115, zc115, Cc115⟩ := hQ115
    refine Rch.jump st115 ?_
    show Rch p ev below _ T115 (mkF m 123 #[.val (.int p1), .val (.int p2), .val (.int p3), .val (.int p4), .val (.int p5), .val (.int ca), .val (.int cb), .val (.int cc), .val (.int (1 : Int32)), .val (.int (p5 &&& (3 : Int32))), .val (.int qq), .val (.ref co), .val (.long ((fun _ => (0 : Int64)) qq.toNatClampNeg)), .second, .unset, .unset] [])
    have N115 := Fr.app N114 Nc115
    refine Rch.go (fun _ q => XS.iload X115.here hx rfl (hb hby at_123) rfl  q) ?_
    show Rch p ev below _ T115 (mkF m 125 #[.val (.int p1), .val (.int p2), .val (.int p3), .val (.int p4), .val (.int p5), .val (.int ca), .val (.int cb), .val (.int cc), .val (.int (1 : Int32)), .val (.int (p5 &&& (3 : Int32))), .val (.int qq), .val (.ref co), .val (.long ((fun _ => (0 : Int64)) qq.toNatClampNeg)), .second, .unset, .unset] [(.int qq)])
    refine Rch.go (fun _ q => XS.iload X115.here hx rfl (hb hby at_125) rfl  q) ?_
    show Rch p ev below _ T115 (mkF m 127 #[.val (.int p1), .val (.int p2), .val (.int p3), .val (.int p4), .val (.int p5), .val (.int ca), .val (.int cb), .val (.int cc), .val (.int (1 : Int32)), .val (.int (p5 &&& (3 : Int32))), .val (.int qq), .val (.ref co), .val (.long ((fun _ => (0 : Int64)) qq.toNatClampNeg)), .second, .unset, .unset] [(.int ca), (.int qq)])
    by_cases hc127 : qq = ca
    · skip
      refine Rch.go (fun _ q => XS.icmpNo X115.here hx rfl (hb hby at_127) rfl (teq hc127).2 q) ?_
      show Rch p ev below _ T115 (mkF m 130 #[.val (.int p1), .val (.int p2), .val (.int p3), .val (.int p4), .val (.int p5), .val (.int ca), .val (.int cb), .val (.int cc), .val (.int (1 : Int32)), .val (.int (p5 &&& (3 : Int32))), .val (.int qq), .val (.ref co), .val (.long ((fun _ => (0 : Int64)) qq.toNatClampNeg)), .second, .unset, .unset] [])
      refine Rch.go (fun _ q => XS.lconst X115.here hx rfl (hb hby at_130) q) ?_
      show Rch p ev below _ T115 (mkF m 131 #[.val (.int p1), .val (.int p2), .val (.int p3), .val (.int p4), .val (.int p5), .val (.int ca), .val (.int cb), .val (.int cc), .val (.int (1 : Int32)), .val (.int (p5 &&& (3 : Int32))), .val (.int qq), .val (.ref co), .val (.long ((fun _ => (0 : Int64)) qq.toNatClampNeg)), .second, .unset, .unset] [(.long (1 : Int64))])
      refine Rch.go (fun _ q => XS.goto X115.here hx rfl (pc0 := 131) (pc' := 135) rfl (hb hby at_131) (by decide) (by decide) q) ?_
      show Rch p ev below _ T115 (mkF m 135 #[.val (.int p1), .val (.int p2), .val (.int p3), .val (.int p4), .val (.int p5), .val (.int ca), .val (.int cb), .val (.int cc), .val (.int (1 : Int32)), .val (.int (p5 &&& (3 : Int32))), .val (.int qq), .val (.ref co), .val (.long ((fun _ => (0 : Int64)) qq.toNatClampNeg)), .second, .unset, .unset] [(.long (1 : Int64))])
      refine Rch.go (fun _ q => XS.iload X115.here hx rfl (hb hby at_135) rfl  q) ?_
      show Rch p ev below _ T115 (mkF m 137 #[.val (.int p1), .val (.int p2), .val (.int p3), .val (.int p4), .val (.int p5), .val (.int ca), .val (.int cb), .val (.int cc), .val (.int (1 : Int32)), .val (.int (p5 &&& (3 : Int32))), .val (.int qq), .val (.ref co), .val (.long ((fun _ => (0 : Int64)) qq.toNatClampNeg)), .second, .unset, .unset] [(.int qq), (.long (1 : Int64))])
      refine Rch.go (fun _ q => XS.iload X115.here hx rfl (hb hby at_137) rfl  q) ?_
      show Rch p ev below _ T115 (mkF m 139 #[.val (.int p1), .val (.int p2), .val (.int p3), .val (.int p4), .val (.int p5), .val (.int ca), .val (.int cb), .val (.int cc), .val (.int (1 : Int32)), .val (.int (p5 &&& (3 : Int32))), .val (.int qq), .val (.ref co), .val (.long ((fun _ => (0 : Int64)) qq.toNatClampNeg)), .second, .unset, .unset] [(.int cb), (.int qq), (.long (1 : Int64))])
      by_cases hc139 : qq = cb
      · skip
        refine Rch.go (fun _ q => XS.icmpNo X115.here hx rfl (hb hby at_139) rfl (teq hc139).2 q) ?_
        show Rch p ev below _ T115 (mkF m 142 #[.val (.int p1), .val (.int p2), .val (.int p3), .val (.int p4), .val (.int p5), .val (.int ca), .val (.int cb), .val (.int cc), .val (.int (1 : Int32)), .val (.int (p5 &&& (3 : Int32))), .val (.int qq), .val (.ref co), .val (.long ((fun _ => (0 : Int64)) qq.toNatClampNeg)), .second, .unset, .unset] [(.long (1 : Int64))])
        refine Rch.go (fun _ q => XS.lconst X115.here hx rfl (hb hby at_142) q) ?_
        show Rch p ev below _ T115 (mkF m 143 #[.val (.int p1), .val (.int p2), .val (.int p3), .val (.int p4), .val (.int p5), .val (.int ca), .val (.int cb), .val (.int cc), .val (.int (1 : Int32)), .val (.int (p5 &&& (3 : Int32))), .val (.int qq), .val (.ref co), .val (.long ((fun _ => (0 : Int64)) qq.toNatClampNeg)), .second, .unset, .unset] [(.long (1 : Int64)), (.long (1 : Int64))])
        refine Rch.go (fun _ q => XS.goto X115.here hx rfl (pc0 := 143) (pc' := 147) rfl (hb hby at_143) (by decide) (by decide) q) ?_
        show Rch p ev below _ T115 (mkF m 147 #[.val (.int p1), .val (.int p2), .val (.int p3), .val (.int p4), .val (.int p5), .val (.int ca), .val (.int cb), .val (.int cc), .val (.int (1 : Int32)), .val (.int (p5 &&& (3 : Int32))), .val (.int qq), .val (.ref co), .val (.long ((fun _ => (0 : Int64)) qq.toNatClampNeg)), .second, .unset, .unset] [(.long (1 : Int64)), (.long (1 : Int64))])
        refine Rch.go (fun _ q => XS.ladd X115.here hx rfl (hb hby at_147) rfl q) ?_
        show Rch p ev below _ T115 (mkF m 148 #[.val (.int p1), .val (.int p2), .val (.int p3), .val (.int p4), .val (.int p5), .val (.int ca), .val (.int cb), .val (.int cc), .val (.int (1 : Int32)), .val (.int (p5 &&& (3 : Int32))), .val (.int qq), .val (.ref co), .val (.long ((fun _ => (0 : Int64)) qq.toNatClampNeg)), .second, .unset, .unset] [(.long ((1 : Int64) + (1 : Int64)))])
        refine Rch.go (fun _ q => XS.iload X115.here hx rfl (hb hby at_148) rfl  q) ?_
        show Rch p ev below _ T115 (mkF m 150 #[.val (.int p1), .val (.int p2), .val (.int p3), .val (.int p4), .val (.int p5), .val (.int ca), .val (.int cb), .val (.int cc), .val (.int (1 : Int32)), .val (.int (p5 &&& (3 : Int32))), .val (.int qq), .val (.ref co), .val (.long ((fun _ => (0 : Int64)) qq.toNatClampNeg)), .second, .unset, .unset] [(.int (1 : Int32)), (.long ((1 : Int64) + (1 : Int64)))])
        refine Rch.go (fun _ q => XS.ifNo X115.here hx rfl (hb hby at_150) rfl ((if0 _ _).trans (feq (by decide)).1) q) ?_
        show Rch p ev below _ T115 (mkF m 153 #[.val (.int p1), .val (.int p2), .val (.int p3), .val (.int p4), .val (.int p5), .val (.int ca), .val (.int cb), .val (.int cc), .val (.int (1 : Int32)), .val (.int (p5 &&& (3 : Int32))), .val (.int qq), .val (.ref co), .val (.long ((fun _ => (0 : Int64)) qq.toNatClampNeg)), .second, .unset, .unset] [(.long ((1 : Int64) + (1 : Int64)))])
        refine Rch.go (fun _ q => XS.iload X115.here hx rfl (hb hby at_153) rfl  q) ?_
        show Rch p ev below _ T115 (mkF m 155 #[.val (.int p1), .val (.int p2), .val (.int p3), .val (.int p4), .val (.int p5), .val (.int ca), .val (.int cb), .val (.int cc), .val (.int (1 : Int32)), .val (.int (p5 &&& (3 : Int32))), .val (.int qq), .val (.ref co), .val (.long ((fun _ => (0 : Int64)) qq.toNatClampNeg)), .second, .unset, .unset] [(.int qq), (.long ((1 : Int64) + (1 : Int64)))])
        refine Rch.go (fun _ q => XS.iload X115.here hx rfl (hb hby at_155) rfl  q) ?_
        show Rch p ev below _ T115 (mkF m 157 #[.val (.int p1), .val (.int p2), .val (.int p3), .val (.int p4), .val (.int p5), .val (.int ca), .val (.int cb), .val (.int cc), .val (.int (1 : Int32)), .val (.int (p5 &&& (3 : Int32))), .val (.int qq), .val (.ref co), .val (.long ((fun _ => (0 : Int64)) qq.toNatClampNeg)), .second, .unset, .unset] [(.int cc), (.int qq), (.long ((1 : Int64) + (1 : Int64)))])
        by_cases hc157 : qq = cc
        · skip
          refine Rch.go (fun _ q => XS.icmpNo X115.here hx rfl (hb hby at_157) rfl (teq hc157).2 q) ?_
          show Rch p ev below _ T115 (mkF m 160 #[.val (.int p1), .val (.int p2), .val (.int p3), .val (.int p4), .val (.int p5), .val (.int ca), .val (.int cb), .val (.int cc), .val (.int (1 : Int32)), .val (.int (p5 &&& (3 : Int32))), .val (.int qq), .val (.ref co), .val (.long ((fun _ => (0 : Int64)) qq.toNatClampNeg)), .second, .unset, .unset] [(.long ((1 : Int64) + (1 : Int64)))])
          refine Rch.go (fun _ q => XS.lconst X115.here hx rfl (hb hby at_160) q) ?_
          show Rch p ev below _ T115 (mkF m 161 #[.val (.int p1), .val (.int p2), .val (.int p3), .val (.int p4), .val (.int p5), .val (.int ca), .val (.int cb), .val (.int cc), .val (.int (1 : Int32)), .val (.int (p5 &&& (3 : Int32))), .val (.int qq), .val (.ref co), .val (.long ((fun _ => (0 : Int64)) qq.toNatClampNeg)), .second, .unset, .unset] [(.long (1 : Int64)), (.long ((1 : Int64) + (1 : Int64)))])
          refine Rch.go (fun _ q => XS.goto X115.here hx rfl (pc0 := 161) (pc' := 165) rfl (hb hby at_161) (by decide) (by decide) q) ?_
          show Rch p ev below _ T115 (mkF m 165 #[.val (.int p1), .val (.int p2), .val (.int p3), .val (.int p4), .val (.int p5), .val (.int ca), .val (.int cb), .val (.int cc), .val (.int (1 : Int32)), .val (.int (p5 &&& (3 : Int32))), .val (.int qq), .val (.ref co), .val (.long ((fun _ => (0 : Int64)) qq.toNatClampNeg)), .second, .unset, .unset] [(.long (1 : Int64)), (.long ((1 : Int64) + (1 : Int64)))])
          refine Rch.go (fun _ q => XS.ladd X115.here hx rfl (hb hby at_165) rfl q) ?_
          show Rch p ev below _ T115 (mkF m 166 #[.val (.int p1), .val (.int p2), .val (.int p3), .val (.int p4), .val (.int p5), .val (.int ca), .val (.int cb), .val (.int cc), .val (.int (1 : Int32)), .val (.int (p5 &&& (3 : Int32))), .val (.int qq), .val (.ref co), .val (.long ((fun _ => (0 : Int64)) qq.toNatClampNeg)), .second, .unset, .unset] [(.long (((1 : Int64) + (1 : Int64)) + (1 : Int64)))])
          refine Rch.go (fun _ q => XS.lstore X115.here hx rfl (hb hby at_166) rfl (l' := #[.val (.int p1), .val (.int p2), .val (.int p3), .val (.int p4), .val (.int p5), .val (.int ca), .val (.int cb), .val (.int cc), .val (.int (1 : Int32)), .val (.int (p5 &&& (3 : Int32))), .val (.int qq), .val (.ref co), .val (.long ((fun _ => (0 : Int64)) qq.toNatClampNeg)), .second, .val (.long (((1 : Int64) + (1 : Int64)) + (1 : Int64))), .second]) rfl q) ?_
          show Rch p ev below _ T115 (mkF m 168 #[.val (.int p1), .val (.int p2), .val (.int p3), .val (.int p4), .val (.int p5), .val (.int ca), .val (.int cb), .val (.int cc), .val (.int (1 : Int32)), .val (.int (p5 &&& (3 : Int32))), .val (.int qq), .val (.ref co), .val (.long ((fun _ => (0 : Int64)) qq.toNatClampNeg)), .second, .val (.long (((1 : Int64) + (1 : Int64)) + (1 : Int64))), .second] [])
          refine Rch.go (fun _ q => XS.lload X115.here hx rfl (hb hby at_168) rfl  q) ?_
          show Rch p ev below _ T115 (mkF m 170 #[.val (.int p1), .val (.int p2), .val (.int p3), .val (.int p4), .val (.int p5), .val (.int ca), .val (.int cb), .val (.int cc), .val (.int (1 : Int32)), .val (.int (p5 &&& (3 : Int32))), .val (.int qq), .val (.ref co), .val (.long ((fun _ => (0 : Int64)) qq.toNatClampNeg)), .second, .val (.long (((1 : Int64) + (1 : Int64)) + (1 : Int64))), .second] [(.long ((fun _ => (0 : Int64)) qq.toNatClampNeg))])
          refine Rch.go (fun _ q => XS.lconst X115.here hx rfl (hb hby at_170) q) ?_
          show Rch p ev below _ T115 (mkF m 171 #[.val (.int p1), .val (.int p2), .val (.int p3), .val (.int p4), .val (.int p5), .val (.int ca), .val (.int cb), .val (.int cc), .val (.int (1 : Int32)), .val (.int (p5 &&& (3 : Int32))), .val (.int qq), .val (.ref co), .val (.long ((fun _ => (0 : Int64)) qq.toNatClampNeg)), .second, .val (.long (((1 : Int64) + (1 : Int64)) + (1 : Int64))), .second] [(.long (0 : Int64)), (.long ((fun _ => (0 : Int64)) qq.toNatClampNeg))])
          refine Rch.go (fun _ q => XS.lcmp X115.here hx rfl (hb hby at_171) rfl q) ?_
          show Rch p ev below _ T115 (mkF m 172 #[.val (.int p1), .val (.int p2), .val (.int p3), .val (.int p4), .val (.int p5), .val (.int ca), .val (.int cb), .val (.int cc), .val (.int (1 : Int32)), .val (.int (p5 &&& (3 : Int32))), .val (.int qq), .val (.ref co), .val (.long ((fun _ => (0 : Int64)) qq.toNatClampNeg)), .second, .val (.long (((1 : Int64) + (1 : Int64)) + (1 : Int64))), .second] [(.int (lcmpW ((fun _ => (0 : Int64)) qq.toNatClampNeg) (0 : Int64)))])
          refine Rch.go (fun _ q => XS.ifNo X115.here hx rfl (hb hby at_172) rfl ((if0 _ _).trans (teq ((lw_eq _ _).mpr rfl)).2) q) ?_
          show Rch p ev below _ T115 (mkF m 175 #[.val (.int p1), .val (.int p2), .val (.int p3), .val (.int p4), .val (.int p5), .val (.int ca), .val (.int cb), .val (.int cc), .val (.int (1 : Int32)), .val (.int (p5 &&& (3 : Int32))), .val (.int qq), .val (.ref co), .val (.long ((fun _ => (0 : Int64)) qq.toNatClampNeg)), .second, .val (.long (((1 : Int64) + (1 : Int64)) + (1 : Int64))), .second] [])
          refine Rch.go (fun _ q => XS.aload X115.here hx rfl (hb hby at_175) rfl rfl q) ?_
          show Rch p ev below _ T115 (mkF m 177 #[.val (.int p1), .val (.int p2), .val (.int p3), .val (.int p4), .val (.int p5), .val (.int ca), .val (.int cb), .val (.int cc), .val (.int (1 : Int32)), .val (.int (p5 &&& (3 : Int32))), .val (.int qq), .val (.ref co), .val (.long ((fun _ => (0 : Int64)) qq.toNatClampNeg)), .second, .val (.long (((1 : Int64) + (1 : Int64)) + (1 : Int64))), .second] [(.ref co)])
          refine Rch.go (fun _ q => XS.iload X115.here hx rfl (hb hby at_177) rfl  q) ?_
          show Rch p ev below _ T115 (mkF m 179 #[.val (.int p1), .val (.int p2), .val (.int p3), .val (.int p4), .val (.int p5), .val (.int ca), .val (.int cb), .val (.int cc), .val (.int (1 : Int32)), .val (.int (p5 &&& (3 : Int32))), .val (.int qq), .val (.ref co), .val (.long ((fun _ => (0 : Int64)) qq.toNatClampNeg)), .second, .val (.long (((1 : Int64) + (1 : Int64)) + (1 : Int64))), .second] [(.int qq), (.ref co)])
          obtain ⟨cq116, kq116, q116a, q116b, q116c⟩ := isOf hZ rfl (own_exa Cc115)
          obtain ⟨_, _, ⟨T116, L116, k116, n116⟩, -, X116, ⟨Lc116, hQ116, l116, y116, z116⟩, st116⟩ := X115.virtualBack hx (y := (⟨"com/example/pocket_reasoner/pocketreasoner/tableau/ConceptCounts", "of", "(I)J"⟩ : MethodName)) (z := (⟨"com/example/pocket_reasoner/pocketreasoner/tableau/ConceptCounts", "of", "(I)J"⟩ : MethodName)) hown (mvT hZ (hw _ (List.mem_of_getElem? (i := 12) rfl))) (mvT hZ (hw _ (List.mem_of_getElem? (i := 13) rfl))) (notFace_of_selects (args := #[]) (mvT hZ (hw _ (List.mem_of_getElem? (i := 15) rfl)))) (mvT hZ (hw _ (List.mem_of_getElem? (i := 15) rfl))) (mvT hZ (hw _ (List.mem_of_getElem? (i := 14) rfl))) (by decide) (backOf (W := 0) (rm5 l Z a0 hw [] co qq zc115 (fun i => if i = cc.toNatClampNeg then (fun i => if i = cb.toNatClampNeg then (fun i => if i = ca.toNatClampNeg then (fun _ => (0 : Int64)) i + 1 else (fun _ => (0 : Int64)) i) i + 1 else (fun i => if i = ca.toNatClampNeg then (fun _ => (0 : Int64)) i + 1 else (fun _ => (0 : Int64)) i) i) i + 1 else (fun i => if i = cb.toNatClampNeg then (fun i => if i = ca.toNatClampNeg then (fun _ => (0 : Int64)) i + 1 else (fun _ => (0 : Int64)) i) i + 1 else (fun i => if i = ca.toNatClampNeg then (fun _ => (0 : Int64)) i + 1 else (fun _ => (0 : Int64)) i) i) i) T115.heap n0 Zc115 Cc115 hqq) hZ (hw _ (List.mem_of_getElem? (i := 16) rfl)) (hw _ (List.mem_of_getElem? (i := 2) rfl)) (by decide) (by decide)) q116a q116c (g := (mkF m 179 #[.val (.int p1), .val (.int p2), .val (.int p3), .val (.int p4), .val (.int p5), .val (.int ca), .val (.int cb), .val (.int cc), .val (.int (1 : Int32)), .val (.int (p5 &&& (3 : Int32))), .val (.int qq), .val (.ref co), .val (.long ((fun _ => (0 : Int64)) qq.toNatClampNeg)), .second, .val (.long (((1 : Int64) + (1 : Int64)) + (1 : Int64))), .second] [(.int qq), (.ref co)])) rfl (by rw [hml]; rfl) (Steps.refl _) (argsL := [(.int qq)]) (rest := []) (lenOf own_pd3 rfl) rfl (by show 2 * 0 + _ ≤ _; exact Nat.le_of_eq rfl) (hb hby at_179) (fun _ _ => ⟨rfl, rfl, (by decide : 5 + 0 ≤ _), (by decide : 1595 + 0 ≤ _)⟩)
          dsimp only [Pt.U, Pt.locs, Pt.cells, Pt.slots] at X116 l116 y116 z116 st116 hQ116
          subst l116 y116 z116
          obtain ⟨rfl, Nc, ec⟩ := hQ116
          refine Rch.jump st116 ?_
          show Rch p ev below _ T116 (mkF m 182 #[.val (.int p1), .val (.int p2), .val (.int p3), .val (.int p4), .val (.int p5), .val (.int ca), .val (.int cb), .val (.int cc), .val (.int (1 : Int32)), .val (.int (p5 &&& (3 : Int32))), .val (.int qq), .val (.ref co), .val (.long ((fun _ => (0 : Int64)) qq.toNatClampNeg)), .second, .val (.long (((1 : Int64) + (1 : Int64)) + (1 : Int64))), .second] [(.long ((fun i => if i = cc.toNatClampNeg then (fun i => if i = cb.toNatClampNeg then (fun i => if i = ca.toNatClampNeg then (fun _ => (0 : Int64)) i + 1 else (fun _ => (0 : Int64)) i) i + 1 else (fun i => if i = ca.toNatClampNeg then (fun _ => (0 : Int64)) i + 1 else (fun _ => (0 : Int64)) i) i) i + 1 else (fun i => if i = cb.toNatClampNeg then (fun i => if i = ca.toNatClampNeg then (fun _ => (0 : Int64)) i + 1 else (fun _ => (0 : Int64)) i) i + 1 else (fun i => if i = ca.toNatClampNeg then (fun _ => (0 : Int64)) i + 1 else (fun _ => (0 : Int64)) i) i) i) qq.toNatClampNeg))])
          have N116 := Fr.app N115 Nc
          have e116 := ec
          refine Rch.go (fun _ q => XS.lload X116.here hx rfl (hb hby at_182) rfl  q) ?_
          show Rch p ev below _ T116 (mkF m 184 #[.val (.int p1), .val (.int p2), .val (.int p3), .val (.int p4), .val (.int p5), .val (.int ca), .val (.int cb), .val (.int cc), .val (.int (1 : Int32)), .val (.int (p5 &&& (3 : Int32))), .val (.int qq), .val (.ref co), .val (.long ((fun _ => (0 : Int64)) qq.toNatClampNeg)), .second, .val (.long (((1 : Int64) + (1 : Int64)) + (1 : Int64))), .second] [(.long (((1 : Int64) + (1 : Int64)) + (1 : Int64))), (.long ((fun i => if i = cc.toNatClampNeg then (fun i => if i = cb.toNatClampNeg then (fun i => if i = ca.toNatClampNeg then (fun _ => (0 : Int64)) i + 1 else (fun _ => (0 : Int64)) i) i + 1 else (fun i => if i = ca.toNatClampNeg then (fun _ => (0 : Int64)) i + 1 else (fun _ => (0 : Int64)) i) i) i + 1 else (fun i => if i = cb.toNatClampNeg then (fun i => if i = ca.toNatClampNeg then (fun _ => (0 : Int64)) i + 1 else (fun _ => (0 : Int64)) i) i + 1 else (fun i => if i = ca.toNatClampNeg then (fun _ => (0 : Int64)) i + 1 else (fun _ => (0 : Int64)) i) i) i) qq.toNatClampNeg))])
          refine Rch.go (fun _ q => XS.lcmp X116.here hx rfl (hb hby at_184) rfl q) ?_
          show Rch p ev below _ T116 (mkF m 185 #[.val (.int p1), .val (.int p2), .val (.int p3), .val (.int p4), .val (.int p5), .val (.int ca), .val (.int cb), .val (.int cc), .val (.int (1 : Int32)), .val (.int (p5 &&& (3 : Int32))), .val (.int qq), .val (.ref co), .val (.long ((fun _ => (0 : Int64)) qq.toNatClampNeg)), .second, .val (.long (((1 : Int64) + (1 : Int64)) + (1 : Int64))), .second] [(.int (lcmpW ((fun i => if i = cc.toNatClampNeg then (fun i => if i = cb.toNatClampNeg then (fun i => if i = ca.toNatClampNeg then (fun _ => (0 : Int64)) i + 1 else (fun _ => (0 : Int64)) i) i + 1 else (fun i => if i = ca.toNatClampNeg then (fun _ => (0 : Int64)) i + 1 else (fun _ => (0 : Int64)) i) i) i + 1 else (fun i => if i = cb.toNatClampNeg then (fun i => if i = ca.toNatClampNeg then (fun _ => (0 : Int64)) i + 1 else (fun _ => (0 : Int64)) i) i + 1 else (fun i => if i = ca.toNatClampNeg then (fun _ => (0 : Int64)) i + 1 else (fun _ => (0 : Int64)) i) i) i) qq.toNatClampNeg) (((1 : Int64) + (1 : Int64)) + (1 : Int64))))])
          have qhc127 := eq_true hc127
          have qhc139 := eq_true hc139
          have qhc157 := eq_true hc157
          have hq : ((fun i => if i = cc.toNatClampNeg then (fun i => if i = cb.toNatClampNeg then (fun i => if i = ca.toNatClampNeg then (fun _ => (0 : Int64)) i + 1 else (fun _ => (0 : Int64)) i) i + 1 else (fun i => if i = ca.toNatClampNeg then (fun _ => (0 : Int64)) i + 1 else (fun _ => (0 : Int64)) i) i) i + 1 else (fun i => if i = cb.toNatClampNeg then (fun i => if i = ca.toNatClampNeg then (fun _ => (0 : Int64)) i + 1 else (fun _ => (0 : Int64)) i) i + 1 else (fun i => if i = ca.toNatClampNeg then (fun _ => (0 : Int64)) i + 1 else (fun _ => (0 : Int64)) i) i) i) qq.toNatClampNeg) = (((1 : Int64) + (1 : Int64)) + (1 : Int64)) := by
            simp only [own_ti qq ca hqq ha.1, own_ti qq cb hqq hb'.1, own_ti qq cc hqq hc'.1, qhc127, qhc139, qhc157, if_true, if_false]; first | done | rfl | decide
          refine Rch.go (fun _ q => XS.ifNo X116.here hx rfl (hb hby at_185) rfl ((if0 _ _).trans (teq ((lw_eq _ _).mpr hq)).2) q) ?_
          show Rch p ev below _ T116 (mkF m 188 #[.val (.int p1), .val (.int p2), .val (.int p3), .val (.int p4), .val (.int p5), .val (.int ca), .val (.int cb), .val (.int cc), .val (.int (1 : Int32)), .val (.int (p5 &&& (3 : Int32))), .val (.int qq), .val (.ref co), .val (.long ((fun _ => (0 : Int64)) qq.toNatClampNeg)), .second, .val (.long (((1 : Int64) + (1 : Int64)) + (1 : Int64))), .second] [])
          refine Rch.go (fun _ q => XS.iconst X116.here hx rfl (hb hby at_188) q) ?_
          show Rch p ev below _ T116 (mkF m 189 #[.val (.int p1), .val (.int p2), .val (.int p3), .val (.int p4), .val (.int p5), .val (.int ca), .val (.int cb), .val (.int cc), .val (.int (1 : Int32)), .val (.int (p5 &&& (3 : Int32))), .val (.int qq), .val (.ref co), .val (.long ((fun _ => (0 : Int64)) qq.toNatClampNeg)), .second, .val (.long (((1 : Int64) + (1 : Int64)) + (1 : Int64))), .second] [(.int (1 : Int32))])
          refine Rch.go (fun _ q => XS.goto X116.here hx rfl (pc0 := 189) (pc' := 193) rfl (hb hby at_189) (by decide) (by decide) q) ?_
          show Rch p ev below _ T116 (mkF m 193 #[.val (.int p1), .val (.int p2), .val (.int p3), .val (.int p4), .val (.int p5), .val (.int ca), .val (.int cb), .val (.int cc), .val (.int (1 : Int32)), .val (.int (p5 &&& (3 : Int32))), .val (.int qq), .val (.ref co), .val (.long ((fun _ => (0 : Int64)) qq.toNatClampNeg)), .second, .val (.long (((1 : Int64) + (1 : Int64)) + (1 : Int64))), .second] [(.int (1 : Int32))])
          refine Rch.retZ X116 hx hlk Bd.returns (hb hby at_193) (by decide) (by decide) ?_
          unfold Qrm0
          exact ⟨rfl, N116⟩
        · skip
          refine Rch.go (fun _ q => XS.icmpYes X115.here hx rfl (pc0 := 157) (pc' := 164) rfl (hb hby at_157) rfl (feq hc157).2 (by decide) (by decide) q) ?_
          show Rch p ev below _ T115 (mkF m 164 #[.val (.int p1), .val (.int p2), .val (.int p3), .val (.int p4), .val (.int p5), .val (.int ca), .val (.int cb), .val (.int cc), .val (.int (1 : Int32)), .val (.int (p5 &&& (3 : Int32))), .val (.int qq), .val (.ref co), .val (.long ((fun _ => (0 : Int64)) qq.toNatClampNeg)), .second, .unset, .unset] [(.long ((1 : Int64) + (1 : Int64)))])
          refine Rch.go (fun _ q => XS.lconst X115.here hx rfl (hb hby at_164) q) ?_
          show Rch p ev below _ T115 (mkF m 165 #[.val (.int p1), .val (.int p2), .val (.int p3), .val (.int p4), .val (.int p5), .val (.int ca), .val (.int cb), .val (.int cc), .val (.int (1 : Int32)), .val (.int (p5 &&& (3 : Int32))), .val (.int qq), .val (.ref co), .val (.long ((fun _ => (0 : Int64)) qq.toNatClampNeg)), .second, .unset, .unset] [(.long (0 : Int64)), (.long ((1 : Int64) + (1 : Int64)))])
          refine Rch.go (fun _ q => XS.ladd X115.here hx rfl (hb hby at_165) rfl q) ?_
          show Rch p ev below _ T115 (mkF m 166 #[.val (.int p1), .val (.int p2), .val (.int p3), .val (.int p4), .val (.int p5), .val (.int ca), .val (.int cb), .val (.int cc), .val (.int (1 : Int32)), .val (.int (p5 &&& (3 : Int32))), .val (.int qq), .val (.ref co), .val (.long ((fun _ => (0 : Int64)) qq.toNatClampNeg)), .second, .unset, .unset] [(.long (((1 : Int64) + (1 : Int64)) + (0 : Int64)))])
          refine Rch.go (fun _ q => XS.lstore X115.here hx rfl (hb hby at_166) rfl (l' := #[.val (.int p1), .val (.int p2), .val (.int p3), .val (.int p4), .val (.int p5), .val (.int ca), .val (.int cb), .val (.int cc), .val (.int (1 : Int32)), .val (.int (p5 &&& (3 : Int32))), .val (.int qq), .val (.ref co), .val (.long ((fun _ => (0 : Int64)) qq.toNatClampNeg)), .second, .val (.long (((1 : Int64) + (1 : Int64)) + (0 : Int64))), .second]) rfl q) ?_
          show Rch p ev below _ T115 (mkF m 168 #[.val (.int p1), .val (.int p2), .val (.int p3), .val (.int p4), .val (.int p5), .val (.int ca), .val (.int cb), .val (.int cc), .val (.int (1 : Int32)), .val (.int (p5 &&& (3 : Int32))), .val (.int qq), .val (.ref co), .val (.long ((fun _ => (0 : Int64)) qq.toNatClampNeg)), .second, .val (.long (((1 : Int64) + (1 : Int64)) + (0 : Int64))), .second] [])
          refine Rch.go (fun _ q => XS.lload X115.here hx rfl (hb hby at_168) rfl  q) ?_
          show Rch p ev below _ T115 (mkF m 170 #[.val (.int p1), .val (.int p2), .val (.int p3), .val (.int p4), .val (.int p5), .val (.int ca), .val (.int cb), .val (.int cc), .val (.int (1 : Int32)), .val (.int (p5 &&& (3 : Int32))), .val (.int qq), .val (.ref co), .val (.long ((fun _ => (0 : Int64)) qq.toNatClampNeg)), .second, .val (.long (((1 : Int64) + (1 : Int64)) + (0 : Int64))), .second] [(.long ((fun _ => (0 : Int64)) qq.toNatClampNeg))])
          refine Rch.go (fun _ q => XS.lconst X115.here hx rfl (hb hby at_170) q) ?_
          show Rch p ev below _ T115 (mkF m 171 #[.val (.int p1), .val (.int p2), .val (.int p3), .val (.int p4), .val (.int p5), .val (.int ca), .val (.int cb), .val (.int cc), .val (.int (1 : Int32)), .val (.int (p5 &&& (3 : Int32))), .val (.int qq), .val (.ref co), .val (.long ((fun _ => (0 : Int64)) qq.toNatClampNeg)), .second, .val (.long (((1 : Int64) + (1 : Int64)) + (0 : Int64))), .second] [(.long (0 : Int64)), (.long ((fun _ => (0 : Int64)) qq.toNatClampNeg))])
          refine Rch.go (fun _ q => XS.lcmp X115.here hx rfl (hb hby at_171) rfl q) ?_
          show Rch p ev below _ T115 (mkF m 172 #[.val (.int p1), .val (.int p2), .val (.int p3), .val (.int p4), .val (.int p5), .val (.int ca), .val (.int cb), .val (.int cc), .val (.int (1 : Int32)), .val (.int (p5 &&& (3 : Int32))), .val (.int qq), .val (.ref co), .val (.long ((fun _ => (0 : Int64)) qq.toNatClampNeg)), .second, .val (.long (((1 : Int64) + (1 : Int64)) + (0 : Int64))), .second] [(.int (lcmpW ((fun _ => (0 : Int64)) qq.toNatClampNeg) (0 : Int64)))])
          refine Rch.go (fun _ q => XS.ifNo X115.here hx rfl (hb hby at_172) rfl ((if0 _ _).trans (teq ((lw_eq _ _).mpr rfl)).2) q) ?_
          show Rch p ev below _ T115 (mkF m 175 #[.val (.int p1), .val (.int p2), .val (.int p3), .val (.int p4), .val (.int p5), .val (.int ca), .val (.int cb), .val (.int cc), .val (.int (1 : Int32)), .val (.int (p5 &&& (3 : Int32))), .val (.int qq), .val (.ref co), .val (.long ((fun _ => (0 : Int64)) qq.toNatClampNeg)), .second, .val (.long (((1 : Int64) + (1 : Int64)) + (0 : Int64))), .second] [])
          refine Rch.go (fun _ q => XS.aload X115.here hx rfl (hb hby at_175) rfl rfl q) ?_
          show Rch p ev below _ T115 (mkF m 177 #[.val (.int p1), .val (.int p2), .val (.int p3), .val (.int p4), .val (.int p5), .val (.int ca), .val (.int cb), .val (.int cc), .val (.int (1 : Int32)), .val (.int (p5 &&& (3 : Int32))), .val (.int qq), .val (.ref co), .val (.long ((fun _ => (0 : Int64)) qq.toNatClampNeg)), .second, .val (.long (((1 : Int64) + (1 : Int64)) + (0 : Int64))), .second] [(.ref co)])
          refine Rch.go (fun _ q => XS.iload X115.here hx rfl (hb hby at_177) rfl  q) ?_
          show Rch p ev below _ T115 (mkF m 179 #[.val (.int p1), .val (.int p2), .val (.int p3), .val (.int p4), .val (.int p5), .val (.int ca), .val (.int cb), .val (.int cc), .val (.int (1 : Int32)), .val (.int (p5 &&& (3 : Int32))), .val (.int qq), .val (.ref co), .val (.long ((fun _ => (0 : Int64)) qq.toNatClampNeg)), .second, .val (.long (((1 : Int64) + (1 : Int64)) + (0 : Int64))), .second] [(.int qq), (.ref co)])
          obtain ⟨cq117, kq117, q117a, q117b, q117c⟩ := isOf hZ rfl (own_exa Cc115)
          obtain ⟨_, _, ⟨T117, L117, k117, n117⟩, -, X117, ⟨Lc117, hQ117, l117, y117, z117⟩, st117⟩ := X115.virtualBack hx (y := (⟨"com/example/pocket_reasoner/pocketreasoner/tableau/ConceptCounts", "of", "(I)J"⟩ : MethodName)) (z := (⟨"com/example/pocket_reasoner/pocketreasoner/tableau/ConceptCounts", "of", "(I)J"⟩ : MethodName)) hown (mvT hZ (hw _ (List.mem_of_getElem? (i := 12) rfl))) (mvT hZ (hw _ (List.mem_of_getElem? (i := 13) rfl))) (notFace_of_selects (args := #[]) (mvT hZ (hw _ (List.mem_of_getElem? (i := 15) rfl)))) (mvT hZ (hw _ (List.mem_of_getElem? (i := 15) rfl))) (mvT hZ (hw _ (List.mem_of_getElem? (i := 14) rfl))) (by decide) (backOf (W := 0) (rm5 l Z a0 hw [] co qq zc115 (fun i => if i = cc.toNatClampNeg then (fun i => if i = cb.toNatClampNeg then (fun i => if i = ca.toNatClampNeg then (fun _ => (0 : Int64)) i + 1 else (fun _ => (0 : Int64)) i) i + 1 else (fun i => if i = ca.toNatClampNeg then (fun _ => (0 : Int64)) i + 1 else (fun _ => (0 : Int64)) i) i) i + 1 else (fun i => if i = cb.toNatClampNeg then (fun i => if i = ca.toNatClampNeg then (fun _ => (0 : Int64)) i + 1 else (fun _ => (0 : Int64)) i) i + 1 else (fun i => if i = ca.toNatClampNeg then (fun _ => (0 : Int64)) i + 1 else (fun _ => (0 : Int64)) i) i) i) T115.heap n0 Zc115 Cc115 hqq) hZ (hw _ (List.mem_of_getElem? (i := 16) rfl)) (hw _ (List.mem_of_getElem? (i := 2) rfl)) (by decide) (by decide)) q117a q117c (g := (mkF m 179 #[.val (.int p1), .val (.int p2), .val (.int p3), .val (.int p4), .val (.int p5), .val (.int ca), .val (.int cb), .val (.int cc), .val (.int (1 : Int32)), .val (.int (p5 &&& (3 : Int32))), .val (.int qq), .val (.ref co), .val (.long ((fun _ => (0 : Int64)) qq.toNatClampNeg)), .second, .val (.long (((1 : Int64) + (1 : Int64)) + (0 : Int64))), .second] [(.int qq), (.ref co)])) rfl (by rw [hml]; rfl) (Steps.refl _) (argsL := [(.int qq)]) (rest := []) (lenOf own_pd3 rfl) rfl (by show 2 * 0 + _ ≤ _; exact Nat.le_of_eq rfl) (hb hby at_179) (fun _ _ => ⟨rfl, rfl, (by decide : 5 + 0 ≤ _), (by decide : 1595 + 0 ≤ _)⟩)
          dsimp only [Pt.U, Pt.locs, Pt.cells, Pt.slots] at X117 l117 y117 z117 st117 hQ117
          subst l117 y117 z117
          obtain ⟨rfl, Nc, ec⟩ := hQ117
          refine Rch.jump st117 ?_
          show Rch p ev below _ T117 (mkF m 182 #[.val (.int p1), .val (.int p2), .val (.int p3), .val (.int p4), .val (.int p5), .val (.int ca), .val (.int cb), .val (.int cc), .val (.int (1 : Int32)), .val (.int (p5 &&& (3 : Int32))), .val (.int qq), .val (.ref co), .val (.long ((fun _ => (0 : Int64)) qq.toNatClampNeg)), .second, .val (.long (((1 : Int64) + (1 : Int64)) + (0 : Int64))), .second] [(.long ((fun i => if i = cc.toNatClampNeg then (fun i => if i = cb.toNatClampNeg then (fun i => if i = ca.toNatClampNeg then (fun _ => (0 : Int64)) i + 1 else (fun _ => (0 : Int64)) i) i + 1 else (fun i => if i = ca.toNatClampNeg then (fun _ => (0 : Int64)) i + 1 else (fun _ => (0 : Int64)) i) i) i + 1 else (fun i => if i = cb.toNatClampNeg then (fun i => if i = ca.toNatClampNeg then (fun _ => (0 : Int64)) i + 1 else (fun _ => (0 : Int64)) i) i + 1 else (fun i => if i = ca.toNatClampNeg then (fun _ => (0 : Int64)) i + 1 else (fun _ => (0 : Int64)) i) i) i) qq.toNatClampNeg))])
          have N117 := Fr.app N115 Nc
          have e117 := ec
          refine Rch.go (fun _ q => XS.lload X117.here hx rfl (hb hby at_182) rfl  q) ?_
          show Rch p ev below _ T117 (mkF m 184 #[.val (.int p1), .val (.int p2), .val (.int p3), .val (.int p4), .val (.int p5), .val (.int ca), .val (.int cb), .val (.int cc), .val (.int (1 : Int32)), .val (.int (p5 &&& (3 : Int32))), .val (.int qq), .val (.ref co), .val (.long ((fun _ => (0 : Int64)) qq.toNatClampNeg)), .second, .val (.long (((1 : Int64) + (1 : Int64)) + (0 : Int64))), .second] [(.long (((1 : Int64) + (1 : Int64)) + (0 : Int64))), (.long ((fun i => if i = cc.toNatClampNeg then (fun i => if i = cb.toNatClampNeg then (fun i => if i = ca.toNatClampNeg then (fun _ => (0 : Int64)) i + 1 else (fun _ => (0 : Int64)) i) i + 1 else (fun i => if i = ca.toNatClampNeg then (fun _ => (0 : Int64)) i + 1 else (fun _ => (0 : Int64)) i) i) i + 1 else (fun i => if i = cb.toNatClampNeg then (fun i => if i = ca.toNatClampNeg then (fun _ => (0 : Int64)) i + 1 else (fun _ => (0 : Int64)) i) i + 1 else (fun i => if i = ca.toNatClampNeg then (fun _ => (0 : Int64)) i + 1 else (fun _ => (0 : Int64)) i) i) i) qq.toNatClampNeg))])
          refine Rch.go (fun _ q => XS.lcmp X117.here hx rfl (hb hby at_184) rfl q) ?_
          show Rch p ev below _ T117 (mkF m 185 #[.val (.int p1), .val (.int p2), .val (.int p3), .val (.int p4), .val (.int p5), .val (.int ca), .val (.int cb), .val (.int cc), .val (.int (1 : Int32)), .val (.int (p5 &&& (3 : Int32))), .val (.int qq), .val (.ref co), .val (.long ((fun _ => (0 : Int64)) qq.toNatClampNeg)), .second, .val (.long (((1 : Int64) + (1 : Int64)) + (0 : Int64))), .second] [(.int (lcmpW ((fun i => if i = cc.toNatClampNeg then (fun i => if i = cb.toNatClampNeg then (fun i => if i = ca.toNatClampNeg then (fun _ => (0 : Int64)) i + 1 else (fun _ => (0 : Int64)) i) i + 1 else (fun i => if i = ca.toNatClampNeg then (fun _ => (0 : Int64)) i + 1 else (fun _ => (0 : Int64)) i) i) i + 1 else (fun i => if i = cb.toNatClampNeg then (fun i => if i = ca.toNatClampNeg then (fun _ => (0 : Int64)) i + 1 else (fun _ => (0 : Int64)) i) i + 1 else (fun i => if i = ca.toNatClampNeg then (fun _ => (0 : Int64)) i + 1 else (fun _ => (0 : Int64)) i) i) i) qq.toNatClampNeg) (((1 : Int64) + (1 : Int64)) + (0 : Int64))))])
          have qhc127 := eq_true hc127
          have qhc139 := eq_true hc139
          have qhc157 := eq_false hc157
          have hq : ((fun i => if i = cc.toNatClampNeg then (fun i => if i = cb.toNatClampNeg then (fun i => if i = ca.toNatClampNeg then (fun _ => (0 : Int64)) i + 1 else (fun _ => (0 : Int64)) i) i + 1 else (fun i => if i = ca.toNatClampNeg then (fun _ => (0 : Int64)) i + 1 else (fun _ => (0 : Int64)) i) i) i + 1 else (fun i => if i = cb.toNatClampNeg then (fun i => if i = ca.toNatClampNeg then (fun _ => (0 : Int64)) i + 1 else (fun _ => (0 : Int64)) i) i + 1 else (fun i => if i = ca.toNatClampNeg then (fun _ => (0 : Int64)) i + 1 else (fun _ => (0 : Int64)) i) i) i) qq.toNatClampNeg) = (((1 : Int64) + (1 : Int64)) + (0 : Int64)) := by
            simp only [own_ti qq ca hqq ha.1, own_ti qq cb hqq hb'.1, own_ti qq cc hqq hc'.1, qhc127, qhc139, qhc157, if_true, if_false]; first | done | rfl | decide
          refine Rch.go (fun _ q => XS.ifNo X117.here hx rfl (hb hby at_185) rfl ((if0 _ _).trans (teq ((lw_eq _ _).mpr hq)).2) q) ?_
          show Rch p ev below _ T117 (mkF m 188 #[.val (.int p1), .val (.int p2), .val (.int p3), .val (.int p4), .val (.int p5), .val (.int ca), .val (.int cb), .val (.int cc), .val (.int (1 : Int32)), .val (.int (p5 &&& (3 : Int32))), .val (.int qq), .val (.ref co), .val (.long ((fun _ => (0 : Int64)) qq.toNatClampNeg)), .second, .val (.long (((1 : Int64) + (1 : Int64)) + (0 : Int64))), .second] [])
          refine Rch.go (fun _ q => XS.iconst X117.here hx rfl (hb hby at_188) q) ?_
          show Rch p ev below _ T117 (mkF m 189 #[.val (.int p1), .val (.int p2), .val (.int p3), .val (.int p4), .val (.int p5), .val (.int ca), .val (.int cb), .val (.int cc), .val (.int (1 : Int32)), .val (.int (p5 &&& (3 : Int32))), .val (.int qq), .val (.ref co), .val (.long ((fun _ => (0 : Int64)) qq.toNatClampNeg)), .second, .val (.long (((1 : Int64) + (1 : Int64)) + (0 : Int64))), .second] [(.int (1 : Int32))])
          refine Rch.go (fun _ q => XS.goto X117.here hx rfl (pc0 := 189) (pc' := 193) rfl (hb hby at_189) (by decide) (by decide) q) ?_
          show Rch p ev below _ T117 (mkF m 193 #[.val (.int p1), .val (.int p2), .val (.int p3), .val (.int p4), .val (.int p5), .val (.int ca), .val (.int cb), .val (.int cc), .val (.int (1 : Int32)), .val (.int (p5 &&& (3 : Int32))), .val (.int qq), .val (.ref co), .val (.long ((fun _ => (0 : Int64)) qq.toNatClampNeg)), .second, .val (.long (((1 : Int64) + (1 : Int64)) + (0 : Int64))), .second] [(.int (1 : Int32))])
          refine Rch.retZ X117 hx hlk Bd.returns (hb hby at_193) (by decide) (by decide) ?_
          unfold Qrm0
          exact ⟨rfl, N117⟩
      · skip
        refine Rch.go (fun _ q => XS.icmpYes X115.here hx rfl (pc0 := 139) (pc' := 146) rfl (hb hby at_139) rfl (feq hc139).2 (by decide) (by decide) q) ?_
        show Rch p ev below _ T115 (mkF m 146 #[.val (.int p1), .val (.int p2), .val (.int p3), .val (.int p4), .val (.int p5), .val (.int ca), .val (.int cb), .val (.int cc), .val (.int (1 : Int32)), .val (.int (p5 &&& (3 : Int32))), .val (.int qq), .val (.ref co), .val (.long ((fun _ => (0 : Int64)) qq.toNatClampNeg)), .second, .unset, .unset] [(.long (1 : Int64))])
        refine Rch.go (fun _ q => XS.lconst X115.here hx rfl (hb hby at_146) q) ?_
        show Rch p ev below _ T115 (mkF m 147 #[.val (.int p1), .val (.int p2), .val (.int p3), .val (.int p4), .val (.int p5), .val (.int ca), .val (.int cb), .val (.int cc), .val (.int (1 : Int32)), .val (.int (p5 &&& (3 : Int32))), .val (.int qq), .val (.ref co), .val (.long ((fun _ => (0 : Int64)) qq.toNatClampNeg)), .second, .unset, .unset] [(.long (0 : Int64)), (.long (1 : Int64))])
        refine Rch.go (fun _ q => XS.ladd X115.here hx rfl (hb hby at_147) rfl q) ?_
        show Rch p ev below _ T115 (mkF m 148 #[.val (.int p1), .val (.int p2), .val (.int p3), .val (.int p4), .val (.int p5), .val (.int ca), .val (.int cb), .val (.int cc), .val (.int (1 : Int32)), .val (.int (p5 &&& (3 : Int32))), .val (.int qq), .val (.ref co), .val (.long ((fun _ => (0 : Int64)) qq.toNatClampNeg)), .second, .unset, .unset] [(.long ((1 : Int64) + (0 : Int64)))])
        refine Rch.go (fun _ q => XS.iload X115.here hx rfl (hb hby at_148) rfl  q) ?_
        show Rch p ev below _ T115 (mkF m 150 #[.val (.int p1), .val (.int p2), .val (.int p3), .val (.int p4), .val (.int p5), .val (.int ca), .val (.int cb), .val (.int cc), .val (.int (1 : Int32)), .val (.int (p5 &&& (3 : Int32))), .val (.int qq), .val (.ref co), .val (.long ((fun _ => (0 : Int64)) qq.toNatClampNeg)), .second, .unset, .unset] [(.int (1 : Int32)), (.long ((1 : Int64) + (0 : Int64)))])
        refine Rch.go (fun _ q => XS.ifNo X115.here hx rfl (hb hby at_150) rfl ((if0 _ _).trans (feq (by decide)).1) q) ?_
        show Rch p ev below _ T115 (mkF m 153 #[.val (.int p1), .val (.int p2), .val (.int p3), .val (.int p4), .val (.int p5), .val (.int ca), .val (.int cb), .val (.int cc), .val (.int (1 : Int32)), .val (.int (p5 &&& (3 : Int32))), .val (.int qq), .val (.ref co), .val (.long ((fun _ => (0 : Int64)) qq.toNatClampNeg)), .second, .unset, .unset] [(.long ((1 : Int64) + (0 : Int64)))])
        refine Rch.go (fun _ q => XS.iload X115.here hx rfl (hb hby at_153) rfl  q) ?_
        show Rch p ev below _ T115 (mkF m 155 #[.val (.int p1), .val (.int p2), .val (.int p3), .val (.int p4), .val (.int p5), .val (.int ca), .val (.int cb), .val (.int cc), .val (.int (1 : Int32)), .val (.int (p5 &&& (3 : Int32))), .val (.int qq), .val (.ref co), .val (.long ((fun _ => (0 : Int64)) qq.toNatClampNeg)), .second, .unset, .unset] [(.int qq), (.long ((1 : Int64) + (0 : Int64)))])
        refine Rch.go (fun _ q => XS.iload X115.here hx rfl (hb hby at_155) rfl  q) ?_
        show Rch p ev below _ T115 (mkF m 157 #[.val (.int p1), .val (.int p2), .val (.int p3), .val (.int p4), .val (.int p5), .val (.int ca), .val (.int cb), .val (.int cc), .val (.int (1 : Int32)), .val (.int (p5 &&& (3 : Int32))), .val (.int qq), .val (.ref co), .val (.long ((fun _ => (0 : Int64)) qq.toNatClampNeg)), .second, .unset, .unset] [(.int cc), (.int qq), (.long ((1 : Int64) + (0 : Int64)))])
        by_cases hc157 : qq = cc
        · skip
          refine Rch.go (fun _ q => XS.icmpNo X115.here hx rfl (hb hby at_157) rfl (teq hc157).2 q) ?_
          show Rch p ev below _ T115 (mkF m 160 #[.val (.int p1), .val (.int p2), .val (.int p3), .val (.int p4), .val (.int p5), .val (.int ca), .val (.int cb), .val (.int cc), .val (.int (1 : Int32)), .val (.int (p5 &&& (3 : Int32))), .val (.int qq), .val (.ref co), .val (.long ((fun _ => (0 : Int64)) qq.toNatClampNeg)), .second, .unset, .unset] [(.long ((1 : Int64) + (0 : Int64)))])
          refine Rch.go (fun _ q => XS.lconst X115.here hx rfl (hb hby at_160) q) ?_
          show Rch p ev below _ T115 (mkF m 161 #[.val (.int p1), .val (.int p2), .val (.int p3), .val (.int p4), .val (.int p5), .val (.int ca), .val (.int cb), .val (.int cc), .val (.int (1 : Int32)), .val (.int (p5 &&& (3 : Int32))), .val (.int qq), .val (.ref co), .val (.long ((fun _ => (0 : Int64)) qq.toNatClampNeg)), .second, .unset, .unset] [(.long (1 : Int64)), (.long ((1 : Int64) + (0 : Int64)))])
          refine Rch.go (fun _ q => XS.goto X115.here hx rfl (pc0 := 161) (pc' := 165) rfl (hb hby at_161) (by decide) (by decide) q) ?_
          show Rch p ev below _ T115 (mkF m 165 #[.val (.int p1), .val (.int p2), .val (.int p3), .val (.int p4), .val (.int p5), .val (.int ca), .val (.int cb), .val (.int cc), .val (.int (1 : Int32)), .val (.int (p5 &&& (3 : Int32))), .val (.int qq), .val (.ref co), .val (.long ((fun _ => (0 : Int64)) qq.toNatClampNeg)), .second, .unset, .unset] [(.long (1 : Int64)), (.long ((1 : Int64) + (0 : Int64)))])
          refine Rch.go (fun _ q => XS.ladd X115.here hx rfl (hb hby at_165) rfl q) ?_
          show Rch p ev below _ T115 (mkF m 166 #[.val (.int p1), .val (.int p2), .val (.int p3), .val (.int p4), .val (.int p5), .val (.int ca), .val (.int cb), .val (.int cc), .val (.int (1 : Int32)), .val (.int (p5 &&& (3 : Int32))), .val (.int qq), .val (.ref co), .val (.long ((fun _ => (0 : Int64)) qq.toNatClampNeg)), .second, .unset, .unset] [(.long (((1 : Int64) + (0 : Int64)) + (1 : Int64)))])
          refine Rch.go (fun _ q => XS.lstore X115.here hx rfl (hb hby at_166) rfl (l' := #[.val (.int p1), .val (.int p2), .val (.int p3), .val (.int p4), .val (.int p5), .val (.int ca), .val (.int cb), .val (.int cc), .val (.int (1 : Int32)), .val (.int (p5 &&& (3 : Int32))), .val (.int qq), .val (.ref co), .val (.long ((fun _ => (0 : Int64)) qq.toNatClampNeg)), .second, .val (.long (((1 : Int64) + (0 : Int64)) + (1 : Int64))), .second]) rfl q) ?_
          show Rch p ev below _ T115 (mkF m 168 #[.val (.int p1), .val (.int p2), .val (.int p3), .val (.int p4), .val (.int p5), .val (.int ca), .val (.int cb), .val (.int cc), .val (.int (1 : Int32)), .val (.int (p5 &&& (3 : Int32))), .val (.int qq), .val (.ref co), .val (.long ((fun _ => (0 : Int64)) qq.toNatClampNeg)), .second, .val (.long (((1 : Int64) + (0 : Int64)) + (1 : Int64))), .second] [])
          refine Rch.go (fun _ q => XS.lload X115.here hx rfl (hb hby at_168) rfl  q) ?_
          show Rch p ev below _ T115 (mkF m 170 #[.val (.int p1), .val (.int p2), .val (.int p3), .val (.int p4), .val (.int p5), .val (.int ca), .val (.int cb), .val (.int cc), .val (.int (1 : Int32)), .val (.int (p5 &&& (3 : Int32))), .val (.int qq), .val (.ref co), .val (.long ((fun _ => (0 : Int64)) qq.toNatClampNeg)), .second, .val (.long (((1 : Int64) + (0 : Int64)) + (1 : Int64))), .second] [(.long ((fun _ => (0 : Int64)) qq.toNatClampNeg))])
          refine Rch.go (fun _ q => XS.lconst X115.here hx rfl (hb hby at_170) q) ?_
          show Rch p ev below _ T115 (mkF m 171 #[.val (.int p1), .val (.int p2), .val (.int p3), .val (.int p4), .val (.int p5), .val (.int ca), .val (.int cb), .val (.int cc), .val (.int (1 : Int32)), .val (.int (p5 &&& (3 : Int32))), .val (.int qq), .val (.ref co), .val (.long ((fun _ => (0 : Int64)) qq.toNatClampNeg)), .second, .val (.long (((1 : Int64) + (0 : Int64)) + (1 : Int64))), .second] [(.long (0 : Int64)), (.long ((fun _ => (0 : Int64)) qq.toNatClampNeg))])
          refine Rch.go (fun _ q => XS.lcmp X115.here hx rfl (hb hby at_171) rfl q) ?_
          show Rch p ev below _ T115 (mkF m 172 #[.val (.int p1), .val (.int p2), .val (.int p3), .val (.int p4), .val (.int p5), .val (.int ca), .val (.int cb), .val (.int cc), .val (.int (1 : Int32)), .val (.int (p5 &&& (3 : Int32))), .val (.int qq), .val (.ref co), .val (.long ((fun _ => (0 : Int64)) qq.toNatClampNeg)), .second, .val (.long (((1 : Int64) + (0 : Int64)) + (1 : Int64))), .second] [(.int (lcmpW ((fun _ => (0 : Int64)) qq.toNatClampNeg) (0 : Int64)))])
          refine Rch.go (fun _ q => XS.ifNo X115.here hx rfl (hb hby at_172) rfl ((if0 _ _).trans (teq ((lw_eq _ _).mpr rfl)).2) q) ?_
          show Rch p ev below _ T115 (mkF m 175 #[.val (.int p1), .val (.int p2), .val (.int p3), .val (.int p4), .val (.int p5), .val (.int ca), .val (.int cb), .val (.int cc), .val (.int (1 : Int32)), .val (.int (p5 &&& (3 : Int32))), .val (.int qq), .val (.ref co), .val (.long ((fun _ => (0 : Int64)) qq.toNatClampNeg)), .second, .val (.long (((1 : Int64) + (0 : Int64)) + (1 : Int64))), .second] [])
          refine Rch.go (fun _ q => XS.aload X115.here hx rfl (hb hby at_175) rfl rfl q) ?_
          show Rch p ev below _ T115 (mkF m 177 #[.val (.int p1), .val (.int p2), .val (.int p3), .val (.int p4), .val (.int p5), .val (.int ca), .val (.int cb), .val (.int cc), .val (.int (1 : Int32)), .val (.int (p5 &&& (3 : Int32))), .val (.int qq), .val (.ref co), .val (.long ((fun _ => (0 : Int64)) qq.toNatClampNeg)), .second, .val (.long (((1 : Int64) + (0 : Int64)) + (1 : Int64))), .second] [(.ref co)])
          refine Rch.go (fun _ q => XS.iload X115.here hx rfl (hb hby at_177) rfl  q) ?_
          show Rch p ev below _ T115 (mkF m 179 #[.val (.int p1), .val (.int p2), .val (.int p3), .val (.int p4), .val (.int p5), .val (.int ca), .val (.int cb), .val (.int cc), .val (.int (1 : Int32)), .val (.int (p5 &&& (3 : Int32))), .val (.int qq), .val (.ref co), .val (.long ((fun _ => (0 : Int64)) qq.toNatClampNeg)), .second, .val (.long (((1 : Int64) + (0 : Int64)) + (1 : Int64))), .second] [(.int qq), (.ref co)])
          obtain ⟨cq118, kq118, q118a, q118b, q118c⟩ := isOf hZ rfl (own_exa Cc115)
          obtain ⟨_, _, ⟨T118, L118, k118, n118⟩, -, X118, ⟨Lc118, hQ118, l118, y118, z118⟩, st118⟩ := X115.virtualBack hx (y := (⟨"com/example/pocket_reasoner/pocketreasoner/tableau/ConceptCounts", "of", "(I)J"⟩ : MethodName)) (z := (⟨"com/example/pocket_reasoner/pocketreasoner/tableau/ConceptCounts", "of", "(I)J"⟩ : MethodName)) hown (mvT hZ (hw _ (List.mem_of_getElem? (i := 12) rfl))) (mvT hZ (hw _ (List.mem_of_getElem? (i := 13) rfl))) (notFace_of_selects (args := #[]) (mvT hZ (hw _ (List.mem_of_getElem? (i := 15) rfl)))) (mvT hZ (hw _ (List.mem_of_getElem? (i := 15) rfl))) (mvT hZ (hw _ (List.mem_of_getElem? (i := 14) rfl))) (by decide) (backOf (W := 0) (rm5 l Z a0 hw [] co qq zc115 (fun i => if i = cc.toNatClampNeg then (fun i => if i = cb.toNatClampNeg then (fun i => if i = ca.toNatClampNeg then (fun _ => (0 : Int64)) i + 1 else (fun _ => (0 : Int64)) i) i + 1 else (fun i => if i = ca.toNatClampNeg then (fun _ => (0 : Int64)) i + 1 else (fun _ => (0 : Int64)) i) i) i + 1 else (fun i => if i = cb.toNatClampNeg then (fun i => if i = ca.toNatClampNeg then (fun _ => (0 : Int64)) i + 1 else (fun _ => (0 : Int64)) i) i + 1 else (fun i => if i = ca.toNatClampNeg then (fun _ => (0 : Int64)) i + 1 else (fun _ => (0 : Int64)) i) i) i) T115.heap n0 Zc115 Cc115 hqq) hZ (hw _ (List.mem_of_getElem? (i := 16) rfl)) (hw _ (List.mem_of_getElem? (i := 2) rfl)) (by decide) (by decide)) q118a q118c (g := (mkF m 179 #[.val (.int p1), .val (.int p2), .val (.int p3), .val (.int p4), .val (.int p5), .val (.int ca), .val (.int cb), .val (.int cc), .val (.int (1 : Int32)), .val (.int (p5 &&& (3 : Int32))), .val (.int qq), .val (.ref co), .val (.long ((fun _ => (0 : Int64)) qq.toNatClampNeg)), .second, .val (.long (((1 : Int64) + (0 : Int64)) + (1 : Int64))), .second] [(.int qq), (.ref co)])) rfl (by rw [hml]; rfl) (Steps.refl _) (argsL := [(.int qq)]) (rest := []) (lenOf own_pd3 rfl) rfl (by show 2 * 0 + _ ≤ _; exact Nat.le_of_eq rfl) (hb hby at_179) (fun _ _ => ⟨rfl, rfl, (by decide : 5 + 0 ≤ _), (by decide : 1595 + 0 ≤ _)⟩)
          dsimp only [Pt.U, Pt.locs, Pt.cells, Pt.slots] at X118 l118 y118 z118 st118 hQ118
          subst l118 y118 z118
          obtain ⟨rfl, Nc, ec⟩ := hQ118
          refine Rch.jump st118 ?_
          show Rch p ev below _ T118 (mkF m 182 #[.val (.int p1), .val (.int p2), .val (.int p3), .val (.int p4), .val (.int p5), .val (.int ca), .val (.int cb), .val (.int cc), .val (.int (1 : Int32)), .val (.int (p5 &&& (3 : Int32))), .val (.int qq), .val (.ref co), .val (.long ((fun _ => (0 : Int64)) qq.toNatClampNeg)), .second, .val (.long (((1 : Int64) + (0 : Int64)) + (1 : Int64))), .second] [(.long ((fun i => if i = cc.toNatClampNeg then (fun i => if i = cb.toNatClampNeg then (fun i => if i = ca.toNatClampNeg then (fun _ => (0 : Int64)) i + 1 else (fun _ => (0 : Int64)) i) i + 1 else (fun i => if i = ca.toNatClampNeg then (fun _ => (0 : Int64)) i + 1 else (fun _ => (0 : Int64)) i) i) i + 1 else (fun i => if i = cb.toNatClampNeg then (fun i => if i = ca.toNatClampNeg then (fun _ => (0 : Int64)) i + 1 else (fun _ => (0 : Int64)) i) i + 1 else (fun i => if i = ca.toNatClampNeg then (fun _ => (0 : Int64)) i + 1 else (fun _ => (0 : Int64)) i) i) i) qq.toNatClampNeg))])
          have N118 := Fr.app N115 Nc
          have e118 := ec
          refine Rch.go (fun _ q => XS.lload X118.here hx rfl (hb hby at_182) rfl  q) ?_
          show Rch p ev below _ T118 (mkF m 184 #[.val (.int p1), .val (.int p2), .val (.int p3), .val (.int p4), .val (.int p5), .val (.int ca), .val (.int cb), .val (.int cc), .val (.int (1 : Int32)), .val (.int (p5 &&& (3 : Int32))), .val (.int qq), .val (.ref co), .val (.long ((fun _ => (0 : Int64)) qq.toNatClampNeg)), .second, .val (.long (((1 : Int64) + (0 : Int64)) + (1 : Int64))), .second] [(.long (((1 : Int64) + (0 : Int64)) + (1 : Int64))), (.long ((fun i => if i = cc.toNatClampNeg then (fun i => if i = cb.toNatClampNeg then (fun i => if i = ca.toNatClampNeg then (fun _ => (0 : Int64)) i + 1 else (fun _ => (0 : Int64)) i) i + 1 else (fun i => if i = ca.toNatClampNeg then (fun _ => (0 : Int64)) i + 1 else (fun _ => (0 : Int64)) i) i) i + 1 else (fun i => if i = cb.toNatClampNeg then (fun i => if i = ca.toNatClampNeg then (fun _ => (0 : Int64)) i + 1 else (fun _ => (0 : Int64)) i) i + 1 else (fun i => if i = ca.toNatClampNeg then (fun _ => (0 : Int64)) i + 1 else (fun _ => (0 : Int64)) i) i) i) qq.toNatClampNeg))])
          refine Rch.go (fun _ q => XS.lcmp X118.here hx rfl (hb hby at_184) rfl q) ?_
          show Rch p ev below _ T118 (mkF m 185 #[.val (.int p1), .val (.int p2), .val (.int p3), .val (.int p4), .val (.int p5), .val (.int ca), .val (.int cb), .val (.int cc), .val (.int (1 : Int32)), .val (.int (p5 &&& (3 : Int32))), .val (.int qq), .val (.ref co), .val (.long ((fun _ => (0 : Int64)) qq.toNatClampNeg)), .second, .val (.long (((1 : Int64) + (0 : Int64)) + (1 : Int64))), .second] [(.int (lcmpW ((fun i => if i = cc.toNatClampNeg then (fun i => if i = cb.toNatClampNeg then (fun i => if i = ca.toNatClampNeg then (fun _ => (0 : Int64)) i + 1 else (fun _ => (0 : Int64)) i) i + 1 else (fun i => if i = ca.toNatClampNeg then (fun _ => (0 : Int64)) i + 1 else (fun _ => (0 : Int64)) i) i) i + 1 else (fun i => if i = cb.toNatClampNeg then (fun i => if i = ca.toNatClampNeg then (fun _ => (0 : Int64)) i + 1 else (fun _ => (0 : Int64)) i) i + 1 else (fun i => if i = ca.toNatClampNeg then (fun _ => (0 : Int64)) i + 1 else (fun _ => (0 : Int64)) i) i) i) qq.toNatClampNeg) (((1 : Int64) + (0 : Int64)) + (1 : Int64))))])
          have qhc127 := eq_true hc127
          have qhc139 := eq_false hc139
          have qhc157 := eq_true hc157
          have hq : ((fun i => if i = cc.toNatClampNeg then (fun i => if i = cb.toNatClampNeg then (fun i => if i = ca.toNatClampNeg then (fun _ => (0 : Int64)) i + 1 else (fun _ => (0 : Int64)) i) i + 1 else (fun i => if i = ca.toNatClampNeg then (fun _ => (0 : Int64)) i + 1 else (fun _ => (0 : Int64)) i) i) i + 1 else (fun i => if i = cb.toNatClampNeg then (fun i => if i = ca.toNatClampNeg then (fun _ => (0 : Int64)) i + 1 else (fun _ => (0 : Int64)) i) i + 1 else (fun i => if i = ca.toNatClampNeg then (fun _ => (0 : Int64)) i + 1 else (fun _ => (0 : Int64)) i) i) i) qq.toNatClampNeg) = (((1 : Int64) + (0 : Int64)) + (1 : Int64)) := by
            simp only [own_ti qq ca hqq ha.1, own_ti qq cb hqq hb'.1, own_ti qq cc hqq hc'.1, qhc127, qhc139, qhc157, if_true, if_false]; first | done | rfl | decide
          refine Rch.go (fun _ q => XS.ifNo X118.here hx rfl (hb hby at_185) rfl ((if0 _ _).trans (teq ((lw_eq _ _).mpr hq)).2) q) ?_
          show Rch p ev below _ T118 (mkF m 188 #[.val (.int p1), .val (.int p2), .val (.int p3), .val (.int p4), .val (.int p5), .val (.int ca), .val (.int cb), .val (.int cc), .val (.int (1 : Int32)), .val (.int (p5 &&& (3 : Int32))), .val (.int qq), .val (.ref co), .val (.long ((fun _ => (0 : Int64)) qq.toNatClampNeg)), .second, .val (.long (((1 : Int64) + (0 : Int64)) + (1 : Int64))), .second] [])
          refine Rch.go (fun _ q => XS.iconst X118.here hx rfl (hb hby at_188) q) ?_
          show Rch p ev below _ T118 (mkF m 189 #[.val (.int p1), .val (.int p2), .val (.int p3), .val (.int p4), .val (.int p5), .val (.int ca), .val (.int cb), .val (.int cc), .val (.int (1 : Int32)), .val (.int (p5 &&& (3 : Int32))), .val (.int qq), .val (.ref co), .val (.long ((fun _ => (0 : Int64)) qq.toNatClampNeg)), .second, .val (.long (((1 : Int64) + (0 : Int64)) + (1 : Int64))), .second] [(.int (1 : Int32))])
          refine Rch.go (fun _ q => XS.goto X118.here hx rfl (pc0 := 189) (pc' := 193) rfl (hb hby at_189) (by decide) (by decide) q) ?_
          show Rch p ev below _ T118 (mkF m 193 #[.val (.int p1), .val (.int p2), .val (.int p3), .val (.int p4), .val (.int p5), .val (.int ca), .val (.int cb), .val (.int cc), .val (.int (1 : Int32)), .val (.int (p5 &&& (3 : Int32))), .val (.int qq), .val (.ref co), .val (.long ((fun _ => (0 : Int64)) qq.toNatClampNeg)), .second, .val (.long (((1 : Int64) + (0 : Int64)) + (1 : Int64))), .second] [(.int (1 : Int32))])
          refine Rch.retZ X118 hx hlk Bd.returns (hb hby at_193) (by decide) (by decide) ?_
          unfold Qrm0
          exact ⟨rfl, N118⟩
        · skip
          refine Rch.go (fun _ q => XS.icmpYes X115.here hx rfl (pc0 := 157) (pc' := 164) rfl (hb hby at_157) rfl (feq hc157).2 (by decide) (by decide) q) ?_
          show Rch p ev below _ T115 (mkF m 164 #[.val (.int p1), .val (.int p2), .val (.int p3), .val (.int p4), .val (.int p5), .val (.int ca), .val (.int cb), .val (.int cc), .val (.int (1 : Int32)), .val (.int (p5 &&& (3 : Int32))), .val (.int qq), .val (.ref co), .val (.long ((fun _ => (0 : Int64)) qq.toNatClampNeg)), .second, .unset, .unset] [(.long ((1 : Int64) + (0 : Int64)))])
          refine Rch.go (fun _ q => XS.lconst X115.here hx rfl (hb hby at_164) q) ?_
          show Rch p ev below _ T115 (mkF m 165 #[.val (.int p1), .val (.int p2), .val (.int p3), .val (.int p4), .val (.int p5), .val (.int ca), .val (.int cb), .val (.int cc), .val (.int (1 : Int32)), .val (.int (p5 &&& (3 : Int32))), .val (.int qq), .val (.ref co), .val (.long ((fun _ => (0 : Int64)) qq.toNatClampNeg)), .second, .unset, .unset] [(.long (0 : Int64)), (.long ((1 : Int64) + (0 : Int64)))])
          refine Rch.go (fun _ q => XS.ladd X115.here hx rfl (hb hby at_165) rfl q) ?_
          show Rch p ev below _ T115 (mkF m 166 #[.val (.int p1), .val (.int p2), .val (.int p3), .val (.int p4), .val (.int p5), .val (.int ca), .val (.int cb), .val (.int cc), .val (.int (1 : Int32)), .val (.int (p5 &&& (3 : Int32))), .val (.int qq), .val (.ref co), .val (.long ((fun _ => (0 : Int64)) qq.toNatClampNeg)), .second, .unset, .unset] [(.long (((1 : Int64) + (0 : Int64)) + (0 : Int64)))])
          refine Rch.go (fun _ q => XS.lstore X115.here hx rfl (hb hby at_166) rfl (l' := #[.val (.int p1), .val (.int p2), .val (.int p3), .val (.int p4), .val (.int p5), .val (.int ca), .val (.int cb), .val (.int cc), .val (.int (1 : Int32)), .val (.int (p5 &&& (3 : Int32))), .val (.int qq), .val (.ref co), .val (.long ((fun _ => (0 : Int64)) qq.toNatClampNeg)), .second, .val (.long (((1 : Int64) + (0 : Int64)) + (0 : Int64))), .second]) rfl q) ?_
          show Rch p ev below _ T115 (mkF m 168 #[.val (.int p1), .val (.int p2), .val (.int p3), .val (.int p4), .val (.int p5), .val (.int ca), .val (.int cb), .val (.int cc), .val (.int (1 : Int32)), .val (.int (p5 &&& (3 : Int32))), .val (.int qq), .val (.ref co), .val (.long ((fun _ => (0 : Int64)) qq.toNatClampNeg)), .second, .val (.long (((1 : Int64) + (0 : Int64)) + (0 : Int64))), .second] [])
          refine Rch.go (fun _ q => XS.lload X115.here hx rfl (hb hby at_168) rfl  q) ?_
          show Rch p ev below _ T115 (mkF m 170 #[.val (.int p1), .val (.int p2), .val (.int p3), .val (.int p4), .val (.int p5), .val (.int ca), .val (.int cb), .val (.int cc), .val (.int (1 : Int32)), .val (.int (p5 &&& (3 : Int32))), .val (.int qq), .val (.ref co), .val (.long ((fun _ => (0 : Int64)) qq.toNatClampNeg)), .second, .val (.long (((1 : Int64) + (0 : Int64)) + (0 : Int64))), .second] [(.long ((fun _ => (0 : Int64)) qq.toNatClampNeg))])
          refine Rch.go (fun _ q => XS.lconst X115.here hx rfl (hb hby at_170) q) ?_
          show Rch p ev below _ T115 (mkF m 171 #[.val (.int p1), .val (.int p2), .val (.int p3), .val (.int p4), .val (.int p5), .val (.int ca), .val (.int cb), .val (.int cc), .val (.int (1 : Int32)), .val (.int (p5 &&& (3 : Int32))), .val (.int qq), .val (.ref co), .val (.long ((fun _ => (0 : Int64)) qq.toNatClampNeg)), .second, .val (.long (((1 : Int64) + (0 : Int64)) + (0 : Int64))), .second] [(.long (0 : Int64)), (.long ((fun _ => (0 : Int64)) qq.toNatClampNeg))])
          refine Rch.go (fun _ q => XS.lcmp X115.here hx rfl (hb hby at_171) rfl q) ?_
          show Rch p ev below _ T115 (mkF m 172 #[.val (.int p1), .val (.int p2), .val (.int p3), .val (.int p4), .val (.int p5), .val (.int ca), .val (.int cb), .val (.int cc), .val (.int (1 : Int32)), .val (.int (p5 &&& (3 : Int32))), .val (.int qq), .val (.ref co), .val (.long ((fun _ => (0 : Int64)) qq.toNatClampNeg)), .second, .val (.long (((1 : Int64) + (0 : Int64)) + (0 : Int64))), .second] [(.int (lcmpW ((fun _ => (0 : Int64)) qq.toNatClampNeg) (0 : Int64)))])
          refine Rch.go (fun _ q => XS.ifNo X115.here hx rfl (hb hby at_172) rfl ((if0 _ _).trans (teq ((lw_eq _ _).mpr rfl)).2) q) ?_
          show Rch p ev below _ T115 (mkF m 175 #[.val (.int p1), .val (.int p2), .val (.int p3), .val (.int p4), .val (.int p5), .val (.int ca), .val (.int cb), .val (.int cc), .val (.int (1 : Int32)), .val (.int (p5 &&& (3 : Int32))), .val (.int qq), .val (.ref co), .val (.long ((fun _ => (0 : Int64)) qq.toNatClampNeg)), .second, .val (.long (((1 : Int64) + (0 : Int64)) + (0 : Int64))), .second] [])
          refine Rch.go (fun _ q => XS.aload X115.here hx rfl (hb hby at_175) rfl rfl q) ?_
          show Rch p ev below _ T115 (mkF m 177 #[.val (.int p1), .val (.int p2), .val (.int p3), .val (.int p4), .val (.int p5), .val (.int ca), .val (.int cb), .val (.int cc), .val (.int (1 : Int32)), .val (.int (p5 &&& (3 : Int32))), .val (.int qq), .val (.ref co), .val (.long ((fun _ => (0 : Int64)) qq.toNatClampNeg)), .second, .val (.long (((1 : Int64) + (0 : Int64)) + (0 : Int64))), .second] [(.ref co)])
          refine Rch.go (fun _ q => XS.iload X115.here hx rfl (hb hby at_177) rfl  q) ?_
          show Rch p ev below _ T115 (mkF m 179 #[.val (.int p1), .val (.int p2), .val (.int p3), .val (.int p4), .val (.int p5), .val (.int ca), .val (.int cb), .val (.int cc), .val (.int (1 : Int32)), .val (.int (p5 &&& (3 : Int32))), .val (.int qq), .val (.ref co), .val (.long ((fun _ => (0 : Int64)) qq.toNatClampNeg)), .second, .val (.long (((1 : Int64) + (0 : Int64)) + (0 : Int64))), .second] [(.int qq), (.ref co)])
          obtain ⟨cq119, kq119, q119a, q119b, q119c⟩ := isOf hZ rfl (own_exa Cc115)
          obtain ⟨_, _, ⟨T119, L119, k119, n119⟩, -, X119, ⟨Lc119, hQ119, l119, y119, z119⟩, st119⟩ := X115.virtualBack hx (y := (⟨"com/example/pocket_reasoner/pocketreasoner/tableau/ConceptCounts", "of", "(I)J"⟩ : MethodName)) (z := (⟨"com/example/pocket_reasoner/pocketreasoner/tableau/ConceptCounts", "of", "(I)J"⟩ : MethodName)) hown (mvT hZ (hw _ (List.mem_of_getElem? (i := 12) rfl))) (mvT hZ (hw _ (List.mem_of_getElem? (i := 13) rfl))) (notFace_of_selects (args := #[]) (mvT hZ (hw _ (List.mem_of_getElem? (i := 15) rfl)))) (mvT hZ (hw _ (List.mem_of_getElem? (i := 15) rfl))) (mvT hZ (hw _ (List.mem_of_getElem? (i := 14) rfl))) (by decide) (backOf (W := 0) (rm5 l Z a0 hw [] co qq zc115 (fun i => if i = cc.toNatClampNeg then (fun i => if i = cb.toNatClampNeg then (fun i => if i = ca.toNatClampNeg then (fun _ => (0 : Int64)) i + 1 else (fun _ => (0 : Int64)) i) i + 1 else (fun i => if i = ca.toNatClampNeg then (fun _ => (0 : Int64)) i + 1 else (fun _ => (0 : Int64)) i) i) i + 1 else (fun i => if i = cb.toNatClampNeg then (fun i => if i = ca.toNatClampNeg then (fun _ => (0 : Int64)) i + 1 else (fun _ => (0 : Int64)) i) i + 1 else (fun i => if i = ca.toNatClampNeg then (fun _ => (0 : Int64)) i + 1 else (fun _ => (0 : Int64)) i) i) i) T115.heap n0 Zc115 Cc115 hqq) hZ (hw _ (List.mem_of_getElem? (i := 16) rfl)) (hw _ (List.mem_of_getElem? (i := 2) rfl)) (by decide) (by decide)) q119a q119c (g := (mkF m 179 #[.val (.int p1), .val (.int p2), .val (.int p3), .val (.int p4), .val (.int p5), .val (.int ca), .val (.int cb), .val (.int cc), .val (.int (1 : Int32)), .val (.int (p5 &&& (3 : Int32))), .val (.int qq), .val (.ref co), .val (.long ((fun _ => (0 : Int64)) qq.toNatClampNeg)), .second, .val (.long (((1 : Int64) + (0 : Int64)) + (0 : Int64))), .second] [(.int qq), (.ref co)])) rfl (by rw [hml]; rfl) (Steps.refl _) (argsL := [(.int qq)]) (rest := []) (lenOf own_pd3 rfl) rfl (by show 2 * 0 + _ ≤ _; exact Nat.le_of_eq rfl) (hb hby at_179) (fun _ _ => ⟨rfl, rfl, (by decide : 5 + 0 ≤ _), (by decide : 1595 + 0 ≤ _)⟩)
          dsimp only [Pt.U, Pt.locs, Pt.cells, Pt.slots] at X119 l119 y119 z119 st119 hQ119
          subst l119 y119 z119
          obtain ⟨rfl, Nc, ec⟩ := hQ119
          refine Rch.jump st119 ?_
          show Rch p ev below _ T119 (mkF m 182 #[.val (.int p1), .val (.int p2), .val (.int p3), .val (.int p4), .val (.int p5), .val (.int ca), .val (.int cb), .val (.int cc), .val (.int (1 : Int32)), .val (.int (p5 &&& (3 : Int32))), .val (.int qq), .val (.ref co), .val (.long ((fun _ => (0 : Int64)) qq.toNatClampNeg)), .second, .val (.long (((1 : Int64) + (0 : Int64)) + (0 : Int64))), .second] [(.long ((fun i => if i = cc.toNatClampNeg then (fun i => if i = cb.toNatClampNeg then (fun i => if i = ca.toNatClampNeg then (fun _ => (0 : Int64)) i + 1 else (fun _ => (0 : Int64)) i) i + 1 else (fun i => if i = ca.toNatClampNeg then (fun _ => (0 : Int64)) i + 1 else (fun _ => (0 : Int64)) i) i) i + 1 else (fun i => if i = cb.toNatClampNeg then (fun i => if i = ca.toNatClampNeg then (fun _ => (0 : Int64)) i + 1 else (fun _ => (0 : Int64)) i) i + 1 else (fun i => if i = ca.toNatClampNeg then (fun _ => (0 : Int64)) i + 1 else (fun _ => (0 : Int64)) i) i) i) qq.toNatClampNeg))])
          have N119 := Fr.app N115 Nc
          have e119 := ec
          refine Rch.go (fun _ q => XS.lload X119.here hx rfl (hb hby at_182) rfl  q) ?_
          show Rch p ev below _ T119 (mkF m 184 #[.val (.int p1), .val (.int p2), .val (.int p3), .val (.int p4), .val (.int p5), .val (.int ca), .val (.int cb), .val (.int cc), .val (.int (1 : Int32)), .val (.int (p5 &&& (3 : Int32))), .val (.int qq), .val (.ref co), .val (.long ((fun _ => (0 : Int64)) qq.toNatClampNeg)), .second, .val (.long (((1 : Int64) + (0 : Int64)) + (0 : Int64))), .second] [(.long (((1 : Int64) + (0 : Int64)) + (0 : Int64))), (.long ((fun i => if i = cc.toNatClampNeg then (fun i => if i = cb.toNatClampNeg then (fun i => if i = ca.toNatClampNeg then (fun _ => (0 : Int64)) i + 1 else (fun _ => (0 : Int64)) i) i + 1 else (fun i => if i = ca.toNatClampNeg then (fun _ => (0 : Int64)) i + 1 else (fun _ => (0 : Int64)) i) i) i + 1 else (fun i => if i = cb.toNatClampNeg then (fun i => if i = ca.toNatClampNeg then (fun _ => (0 : Int64)) i + 1 else (fun _ => (0 : Int64)) i) i + 1 else (fun i => if i = ca.toNatClampNeg then (fun _ => (0 : Int64)) i + 1 else (fun _ => (0 : Int64)) i) i) i) qq.toNatClampNeg))])
          refine Rch.go (fun _ q => XS.lcmp X119.here hx rfl (hb hby at_184) rfl q) ?_
          show Rch p ev below _ T119 (mkF m 185 #[.val (.int p1), .val (.int p2), .val (.int p3), .val (.int p4), .val (.int p5), .val (.int ca), .val (.int cb), .val (.int cc), .val (.int (1 : Int32)), .val (.int (p5 &&& (3 : Int32))), .val (.int qq), .val (.ref co), .val (.long ((fun _ => (0 : Int64)) qq.toNatClampNeg)), .second, .val (.long (((1 : Int64) + (0 : Int64)) + (0 : Int64))), .second] [(.int (lcmpW ((fun i => if i = cc.toNatClampNeg then (fun i => if i = cb.toNatClampNeg then (fun i => if i = ca.toNatClampNeg then (fun _ => (0 : Int64)) i + 1 else (fun _ => (0 : Int64)) i) i + 1 else (fun i => if i = ca.toNatClampNeg then (fun _ => (0 : Int64)) i + 1 else (fun _ => (0 : Int64)) i) i) i + 1 else (fun i => if i = cb.toNatClampNeg then (fun i => if i = ca.toNatClampNeg then (fun _ => (0 : Int64)) i + 1 else (fun _ => (0 : Int64)) i) i + 1 else (fun i => if i = ca.toNatClampNeg then (fun _ => (0 : Int64)) i + 1 else (fun _ => (0 : Int64)) i) i) i) qq.toNatClampNeg) (((1 : Int64) + (0 : Int64)) + (0 : Int64))))])
          have qhc127 := eq_true hc127
          have qhc139 := eq_false hc139
          have qhc157 := eq_false hc157
          have hq : ((fun i => if i = cc.toNatClampNeg then (fun i => if i = cb.toNatClampNeg then (fun i => if i = ca.toNatClampNeg then (fun _ => (0 : Int64)) i + 1 else (fun _ => (0 : Int64)) i) i + 1 else (fun i => if i = ca.toNatClampNeg then (fun _ => (0 : Int64)) i + 1 else (fun _ => (0 : Int64)) i) i) i + 1 else (fun i => if i = cb.toNatClampNeg then (fun i => if i = ca.toNatClampNeg then (fun _ => (0 : Int64)) i + 1 else (fun _ => (0 : Int64)) i) i + 1 else (fun i => if i = ca.toNatClampNeg then (fun _ => (0 : Int64)) i + 1 else (fun _ => (0 : Int64)) i) i) i) qq.toNatClampNeg) = (((1 : Int64) + (0 : Int64)) + (0 : Int64)) := by
            simp only [own_ti qq ca hqq ha.1, own_ti qq cb hqq hb'.1, own_ti qq cc hqq hc'.1, qhc127, qhc139, qhc157, if_true, if_false]; first | done | rfl | decide
          refine Rch.go (fun _ q => XS.ifNo X119.here hx rfl (hb hby at_185) rfl ((if0 _ _).trans (teq ((lw_eq _ _).mpr hq)).2) q) ?_
          show Rch p ev below _ T119 (mkF m 188 #[.val (.int p1), .val (.int p2), .val (.int p3), .val (.int p4), .val (.int p5), .val (.int ca), .val (.int cb), .val (.int cc), .val (.int (1 : Int32)), .val (.int (p5 &&& (3 : Int32))), .val (.int qq), .val (.ref co), .val (.long ((fun _ => (0 : Int64)) qq.toNatClampNeg)), .second, .val (.long (((1 : Int64) + (0 : Int64)) + (0 : Int64))), .second] [])
          refine Rch.go (fun _ q => XS.iconst X119.here hx rfl (hb hby at_188) q) ?_
          show Rch p ev below _ T119 (mkF m 189 #[.val (.int p1), .val (.int p2), .val (.int p3), .val (.int p4), .val (.int p5), .val (.int ca), .val (.int cb), .val (.int cc), .val (.int (1 : Int32)), .val (.int (p5 &&& (3 : Int32))), .val (.int qq), .val (.ref co), .val (.long ((fun _ => (0 : Int64)) qq.toNatClampNeg)), .second, .val (.long (((1 : Int64) + (0 : Int64)) + (0 : Int64))), .second] [(.int (1 : Int32))])
          refine Rch.go (fun _ q => XS.goto X119.here hx rfl (pc0 := 189) (pc' := 193) rfl (hb hby at_189) (by decide) (by decide) q) ?_
          show Rch p ev below _ T119 (mkF m 193 #[.val (.int p1), .val (.int p2), .val (.int p3), .val (.int p4), .val (.int p5), .val (.int ca), .val (.int cb), .val (.int cc), .val (.int (1 : Int32)), .val (.int (p5 &&& (3 : Int32))), .val (.int qq), .val (.ref co), .val (.long ((fun _ => (0 : Int64)) qq.toNatClampNeg)), .second, .val (.long (((1 : Int64) + (0 : Int64)) + (0 : Int64))), .second] [(.int (1 : Int32))])
          refine Rch.retZ X119 hx hlk Bd.returns (hb hby at_193) (by decide) (by decide) ?_
          unfold Qrm0
          exact ⟨rfl, N119⟩
    · skip
      refine Rch.go (fun _ q => XS.icmpYes X115.here hx rfl (pc0 := 127) (pc' := 134) rfl (hb hby at_127) rfl (feq hc127).2 (by decide) (by decide) q) ?_
      show Rch p ev below _ T115 (mkF m 134 #[.val (.int p1), .val (.int p2), .val (.int p3), .val (.int p4), .val (.int p5), .val (.int ca), .val (.int cb), .val (.int cc), .val (.int (1 : Int32)), .val (.int (p5 &&& (3 : Int32))), .val (.int qq), .val (.ref co), .val (.long ((fun _ => (0 : Int64)) qq.toNatClampNeg)), .second, .unset, .unset] [])
      refine Rch.go (fun _ q => XS.lconst X115.here hx rfl (hb hby at_134) q) ?_
      show Rch p ev below _ T115 (mkF m 135 #[.val (.int p1), .val (.int p2), .val (.int p3), .val (.int p4), .val (.int p5), .val (.int ca), .val (.int cb), .val (.int cc), .val (.int (1 : Int32)), .val (.int (p5 &&& (3 : Int32))), .val (.int qq), .val (.ref co), .val (.long ((fun _ => (0 : Int64)) qq.toNatClampNeg)), .second, .unset, .unset] [(.long (0 : Int64))])
      refine Rch.go (fun _ q => XS.iload X115.here hx rfl (hb hby at_135) rfl  q) ?_
      show Rch p ev below _ T115 (mkF m 137 #[.val (.int p1), .val (.int p2), .val (.int p3), .val (.int p4), .val (.int p5), .val (.int ca), .val (.int cb), .val (.int cc), .val (.int (1 : Int32)), .val (.int (p5 &&& (3 : Int32))), .val (.int qq), .val (.ref co), .val (.long ((fun _ => (0 : Int64)) qq.toNatClampNeg)), .second, .unset, .unset] [(.int qq), (.long (0 : Int64))])
      refine Rch.go (fun _ q => XS.iload X115.here hx rfl (hb hby at_137) rfl  q) ?_
      show Rch p ev below _ T115 (mkF m 139 #[.val (.int p1), .val (.int p2), .val (.int p3), .val (.int p4), .val (.int p5), .val (.int ca), .val (.int cb), .val (.int cc), .val (.int (1 : Int32)), .val (.int (p5 &&& (3 : Int32))), .val (.int qq), .val (.ref co), .val (.long ((fun _ => (0 : Int64)) qq.toNatClampNeg)), .second, .unset, .unset] [(.int cb), (.int qq), (.long (0 : Int64))])
      by_cases hc139 : qq = cb
      · skip
        refine Rch.go (fun _ q => XS.icmpNo X115.here hx rfl (hb hby at_139) rfl (teq hc139).2 q) ?_
        show Rch p ev below _ T115 (mkF m 142 #[.val (.int p1), .val (.int p2), .val (.int p3), .val (.int p4), .val (.int p5), .val (.int ca), .val (.int cb), .val (.int cc), .val (.int (1 : Int32)), .val (.int (p5 &&& (3 : Int32))), .val (.int qq), .val (.ref co), .val (.long ((fun _ => (0 : Int64)) qq.toNatClampNeg)), .second, .unset, .unset] [(.long (0 : Int64))])
        refine Rch.go (fun _ q => XS.lconst X115.here hx rfl (hb hby at_142) q) ?_
        show Rch p ev below _ T115 (mkF m 143 #[.val (.int p1), .val (.int p2), .val (.int p3), .val (.int p4), .val (.int p5), .val (.int ca), .val (.int cb), .val (.int cc), .val (.int (1 : Int32)), .val (.int (p5 &&& (3 : Int32))), .val (.int qq), .val (.ref co), .val (.long ((fun _ => (0 : Int64)) qq.toNatClampNeg)), .second, .unset, .unset] [(.long (1 : Int64)), (.long (0 : Int64))])
        refine Rch.go (fun _ q => XS.goto X115.here hx rfl (pc0 := 143) (pc' := 147) rfl (hb hby at_143) (by decide) (by decide) q) ?_
        show Rch p ev below _ T115 (mkF m 147 #[.val (.int p1), .val (.int p2), .val (.int p3), .val (.int p4), .val (.int p5), .val (.int ca), .val (.int cb), .val (.int cc), .val (.int (1 : Int32)), .val (.int (p5 &&& (3 : Int32))), .val (.int qq), .val (.ref co), .val (.long ((fun _ => (0 : Int64)) qq.toNatClampNeg)), .second, .unset, .unset] [(.long (1 : Int64)), (.long (0 : Int64))])
        refine Rch.go (fun _ q => XS.ladd X115.here hx rfl (hb hby at_147) rfl q) ?_
        show Rch p ev below _ T115 (mkF m 148 #[.val (.int p1), .val (.int p2), .val (.int p3), .val (.int p4), .val (.int p5), .val (.int ca), .val (.int cb), .val (.int cc), .val (.int (1 : Int32)), .val (.int (p5 &&& (3 : Int32))), .val (.int qq), .val (.ref co), .val (.long ((fun _ => (0 : Int64)) qq.toNatClampNeg)), .second, .unset, .unset] [(.long ((0 : Int64) + (1 : Int64)))])
        refine Rch.go (fun _ q => XS.iload X115.here hx rfl (hb hby at_148) rfl  q) ?_
        show Rch p ev below _ T115 (mkF m 150 #[.val (.int p1), .val (.int p2), .val (.int p3), .val (.int p4), .val (.int p5), .val (.int ca), .val (.int cb), .val (.int cc), .val (.int (1 : Int32)), .val (.int (p5 &&& (3 : Int32))), .val (.int qq), .val (.ref co), .val (.long ((fun _ => (0 : Int64)) qq.toNatClampNeg)), .second, .unset, .unset] [(.int (1 : Int32)), (.long ((0 : Int64) + (1 : Int64)))])
        refine Rch.go (fun _ q => XS.ifNo X115.here hx rfl (hb hby at_150) rfl ((if0 _ _).trans (feq (by decide)).1) q) ?_
        show Rch p ev below _ T115 (mkF m 153 #[.val (.int p1), .val (.int p2), .val (.int p3), .val (.int p4), .val (.int p5), .val (.int ca), .val (.int cb), .val (.int cc), .val (.int (1 : Int32)), .val (.int (p5 &&& (3 : Int32))), .val (.int qq), .val (.ref co), .val (.long ((fun _ => (0 : Int64)) qq.toNatClampNeg)), .second, .unset, .unset] [(.long ((0 : Int64) + (1 : Int64)))])
        refine Rch.go (fun _ q => XS.iload X115.here hx rfl (hb hby at_153) rfl  q) ?_
        show Rch p ev below _ T115 (mkF m 155 #[.val (.int p1), .val (.int p2), .val (.int p3), .val (.int p4), .val (.int p5), .val (.int ca), .val (.int cb), .val (.int cc), .val (.int (1 : Int32)), .val (.int (p5 &&& (3 : Int32))), .val (.int qq), .val (.ref co), .val (.long ((fun _ => (0 : Int64)) qq.toNatClampNeg)), .second, .unset, .unset] [(.int qq), (.long ((0 : Int64) + (1 : Int64)))])
        refine Rch.go (fun _ q => XS.iload X115.here hx rfl (hb hby at_155) rfl  q) ?_
        show Rch p ev below _ T115 (mkF m 157 #[.val (.int p1), .val (.int p2), .val (.int p3), .val (.int p4), .val (.int p5), .val (.int ca), .val (.int cb), .val (.int cc), .val (.int (1 : Int32)), .val (.int (p5 &&& (3 : Int32))), .val (.int qq), .val (.ref co), .val (.long ((fun _ => (0 : Int64)) qq.toNatClampNeg)), .second, .unset, .unset] [(.int cc), (.int qq), (.long ((0 : Int64) + (1 : Int64)))])
        by_cases hc157 : qq = cc
        · skip
          refine Rch.go (fun _ q => XS.icmpNo X115.here hx rfl (hb hby at_157) rfl (teq hc157).2 q) ?_
          show Rch p ev below _ T115 (mkF m 160 #[.val (.int p1), .val (.int p2), .val (.int p3), .val (.int p4), .val (.int p5), .val (.int ca), .val (.int cb), .val (.int cc), .val (.int (1 : Int32)), .val (.int (p5 &&& (3 : Int32))), .val (.int qq), .val (.ref co), .val (.long ((fun _ => (0 : Int64)) qq.toNatClampNeg)), .second, .unset, .unset] [(.long ((0 : Int64) + (1 : Int64)))])
          refine Rch.go (fun _ q => XS.lconst X115.here hx rfl (hb hby at_160) q) ?_
          show Rch p ev below _ T115 (mkF m 161 #[.val (.int p1), .val (.int p2), .val (.int p3), .val (.int p4), .val (.int p5), .val (.int ca), .val (.int cb), .val (.int cc), .val (.int (1 : Int32)), .val (.int (p5 &&& (3 : Int32))), .val (.int qq), .val (.ref co), .val (.long ((fun _ => (0 : Int64)) qq.toNatClampNeg)), .second, .unset, .unset] [(.long (1 : Int64)), (.long ((0 : Int64) + (1 : Int64)))])
          refine Rch.go (fun _ q => XS.goto X115.here hx rfl (pc0 := 161) (pc' := 165) rfl (hb hby at_161) (by decide) (by decide) q) ?_
          show Rch p ev below _ T115 (mkF m 165 #[.val (.int p1), .val (.int p2), .val (.int p3), .val (.int p4), .val (.int p5), .val (.int ca), .val (.int cb), .val (.int cc), .val (.int (1 : Int32)), .val (.int (p5 &&& (3 : Int32))), .val (.int qq), .val (.ref co), .val (.long ((fun _ => (0 : Int64)) qq.toNatClampNeg)), .second, .unset, .unset] [(.long (1 : Int64)), (.long ((0 : Int64) + (1 : Int64)))])
          refine Rch.go (fun _ q => XS.ladd X115.here hx rfl (hb hby at_165) rfl q) ?_
          show Rch p ev below _ T115 (mkF m 166 #[.val (.int p1), .val (.int p2), .val (.int p3), .val (.int p4), .val (.int p5), .val (.int ca), .val (.int cb), .val (.int cc), .val (.int (1 : Int32)), .val (.int (p5 &&& (3 : Int32))), .val (.int qq), .val (.ref co), .val (.long ((fun _ => (0 : Int64)) qq.toNatClampNeg)), .second, .unset, .unset] [(.long (((0 : Int64) + (1 : Int64)) + (1 : Int64)))])
          refine Rch.go (fun _ q => XS.lstore X115.here hx rfl (hb hby at_166) rfl (l' := #[.val (.int p1), .val (.int p2), .val (.int p3), .val (.int p4), .val (.int p5), .val (.int ca), .val (.int cb), .val (.int cc), .val (.int (1 : Int32)), .val (.int (p5 &&& (3 : Int32))), .val (.int qq), .val (.ref co), .val (.long ((fun _ => (0 : Int64)) qq.toNatClampNeg)), .second, .val (.long (((0 : Int64) + (1 : Int64)) + (1 : Int64))), .second]) rfl q) ?_
          show Rch p ev below _ T115 (mkF m 168 #[.val (.int p1), .val (.int p2), .val (.int p3), .val (.int p4), .val (.int p5), .val (.int ca), .val (.int cb), .val (.int cc), .val (.int (1 : Int32)), .val (.int (p5 &&& (3 : Int32))), .val (.int qq), .val (.ref co), .val (.long ((fun _ => (0 : Int64)) qq.toNatClampNeg)), .second, .val (.long (((0 : Int64) + (1 : Int64)) + (1 : Int64))), .second] [])
          refine Rch.go (fun _ q => XS.lload X115.here hx rfl (hb hby at_168) rfl  q) ?_
          show Rch p ev below _ T115 (mkF m 170 #[.val (.int p1), .val (.int p2), .val (.int p3), .val (.int p4), .val (.int p5), .val (.int ca), .val (.int cb), .val (.int cc), .val (.int (1 : Int32)), .val (.int (p5 &&& (3 : Int32))), .val (.int qq), .val (.ref co), .val (.long ((fun _ => (0 : Int64)) qq.toNatClampNeg)), .second, .val (.long (((0 : Int64) + (1 : Int64)) + (1 : Int64))), .second] [(.long ((fun _ => (0 : Int64)) qq.toNatClampNeg))])
          refine Rch.go (fun _ q => XS.lconst X115.here hx rfl (hb hby at_170) q) ?_
          show Rch p ev below _ T115 (mkF m 171 #[.val (.int p1), .val (.int p2), .val (.int p3), .val (.int p4), .val (.int p5), .val (.int ca), .val (.int cb), .val (.int cc), .val (.int (1 : Int32)), .val (.int (p5 &&& (3 : Int32))), .val (.int qq), .val (.ref co), .val (.long ((fun _ => (0 : Int64)) qq.toNatClampNeg)), .second, .val (.long (((0 : Int64) + (1 : Int64)) + (1 : Int64))), .second] [(.long (0 : Int64)), (.long ((fun _ => (0 : Int64)) qq.toNatClampNeg))])
          refine Rch.go (fun _ q => XS.lcmp X115.here hx rfl (hb hby at_171) rfl q) ?_
          show Rch p ev below _ T115 (mkF m 172 #[.val (.int p1), .val (.int p2), .val (.int p3), .val (.int p4), .val (.int p5), .val (.int ca), .val (.int cb), .val (.int cc), .val (.int (1 : Int32)), .val (.int (p5 &&& (3 : Int32))), .val (.int qq), .val (.ref co), .val (.long ((fun _ => (0 : Int64)) qq.toNatClampNeg)), .second, .val (.long (((0 : Int64) + (1 : Int64)) + (1 : Int64))), .second] [(.int (lcmpW ((fun _ => (0 : Int64)) qq.toNatClampNeg) (0 : Int64)))])
          refine Rch.go (fun _ q => XS.ifNo X115.here hx rfl (hb hby at_172) rfl ((if0 _ _).trans (teq ((lw_eq _ _).mpr rfl)).2) q) ?_
          show Rch p ev below _ T115 (mkF m 175 #[.val (.int p1), .val (.int p2), .val (.int p3), .val (.int p4), .val (.int p5), .val (.int ca), .val (.int cb), .val (.int cc), .val (.int (1 : Int32)), .val (.int (p5 &&& (3 : Int32))), .val (.int qq), .val (.ref co), .val (.long ((fun _ => (0 : Int64)) qq.toNatClampNeg)), .second, .val (.long (((0 : Int64) + (1 : Int64)) + (1 : Int64))), .second] [])
          refine Rch.go (fun _ q => XS.aload X115.here hx rfl (hb hby at_175) rfl rfl q) ?_
          show Rch p ev below _ T115 (mkF m 177 #[.val (.int p1), .val (.int p2), .val (.int p3), .val (.int p4), .val (.int p5), .val (.int ca), .val (.int cb), .val (.int cc), .val (.int (1 : Int32)), .val (.int (p5 &&& (3 : Int32))), .val (.int qq), .val (.ref co), .val (.long ((fun _ => (0 : Int64)) qq.toNatClampNeg)), .second, .val (.long (((0 : Int64) + (1 : Int64)) + (1 : Int64))), .second] [(.ref co)])
          refine Rch.go (fun _ q => XS.iload X115.here hx rfl (hb hby at_177) rfl  q) ?_
          show Rch p ev below _ T115 (mkF m 179 #[.val (.int p1), .val (.int p2), .val (.int p3), .val (.int p4), .val (.int p5), .val (.int ca), .val (.int cb), .val (.int cc), .val (.int (1 : Int32)), .val (.int (p5 &&& (3 : Int32))), .val (.int qq), .val (.ref co), .val (.long ((fun _ => (0 : Int64)) qq.toNatClampNeg)), .second, .val (.long (((0 : Int64) + (1 : Int64)) + (1 : Int64))), .second] [(.int qq), (.ref co)])
          obtain ⟨cq120, kq120, q120a, q120b, q120c⟩ := isOf hZ rfl (own_exa Cc115)
          obtain ⟨_, _, ⟨T120, L120, k120, n120⟩, -, X120, ⟨Lc120, hQ120, l120, y120, z120⟩, st120⟩ := X115.virtualBack hx (y := (⟨"com/example/pocket_reasoner/pocketreasoner/tableau/ConceptCounts", "of", "(I)J"⟩ : MethodName)) (z := (⟨"com/example/pocket_reasoner/pocketreasoner/tableau/ConceptCounts", "of", "(I)J"⟩ : MethodName)) hown (mvT hZ (hw _ (List.mem_of_getElem? (i := 12) rfl))) (mvT hZ (hw _ (List.mem_of_getElem? (i := 13) rfl))) (notFace_of_selects (args := #[]) (mvT hZ (hw _ (List.mem_of_getElem? (i := 15) rfl)))) (mvT hZ (hw _ (List.mem_of_getElem? (i := 15) rfl))) (mvT hZ (hw _ (List.mem_of_getElem? (i := 14) rfl))) (by decide) (backOf (W := 0) (rm5 l Z a0 hw [] co qq zc115 (fun i => if i = cc.toNatClampNeg then (fun i => if i = cb.toNatClampNeg then (fun i => if i = ca.toNatClampNeg then (fun _ => (0 : Int64)) i + 1 else (fun _ => (0 : Int64)) i) i + 1 else (fun i => if i = ca.toNatClampNeg then (fun _ => (0 : Int64)) i + 1 else (fun _ => (0 : Int64)) i) i) i + 1 else (fun i => if i = cb.toNatClampNeg then (fun i => if i = ca.toNatClampNeg then (fun _ => (0 : Int64)) i + 1 else (fun _ => (0 : Int64)) i) i + 1 else (fun i => if i = ca.toNatClampNeg then (fun _ => (0 : Int64)) i + 1 else (fun _ => (0 : Int64)) i) i) i) T115.heap n0 Zc115 Cc115 hqq) hZ (hw _ (List.mem_of_getElem? (i := 16) rfl)) (hw _ (List.mem_of_getElem? (i := 2) rfl)) (by decide) (by decide)) q120a q120c (g := (mkF m 179 #[.val (.int p1), .val (.int p2), .val (.int p3), .val (.int p4), .val (.int p5), .val (.int ca), .val (.int cb), .val (.int cc), .val (.int (1 : Int32)), .val (.int (p5 &&& (3 : Int32))), .val (.int qq), .val (.ref co), .val (.long ((fun _ => (0 : Int64)) qq.toNatClampNeg)), .second, .val (.long (((0 : Int64) + (1 : Int64)) + (1 : Int64))), .second] [(.int qq), (.ref co)])) rfl (by rw [hml]; rfl) (Steps.refl _) (argsL := [(.int qq)]) (rest := []) (lenOf own_pd3 rfl) rfl (by show 2 * 0 + _ ≤ _; exact Nat.le_of_eq rfl) (hb hby at_179) (fun _ _ => ⟨rfl, rfl, (by decide : 5 + 0 ≤ _), (by decide : 1595 + 0 ≤ _)⟩)
          dsimp only [Pt.U, Pt.locs, Pt.cells, Pt.slots] at X120 l120 y120 z120 st120 hQ120
          subst l120 y120 z120
          obtain ⟨rfl, Nc, ec⟩ := hQ120
          refine Rch.jump st120 ?_
          show Rch p ev below _ T120 (mkF m 182 #[.val (.int p1), .val (.int p2), .val (.int p3), .val (.int p4), .val (.int p5), .val (.int ca), .val (.int cb), .val (.int cc), .val (.int (1 : Int32)), .val (.int (p5 &&& (3 : Int32))), .val (.int qq), .val (.ref co), .val (.long ((fun _ => (0 : Int64)) qq.toNatClampNeg)), .second, .val (.long (((0 : Int64) + (1 : Int64)) + (1 : Int64))), .second] [(.long ((fun i => if i = cc.toNatClampNeg then (fun i => if i = cb.toNatClampNeg then (fun i => if i = ca.toNatClampNeg then (fun _ => (0 : Int64)) i + 1 else (fun _ => (0 : Int64)) i) i + 1 else (fun i => if i = ca.toNatClampNeg then (fun _ => (0 : Int64)) i + 1 else (fun _ => (0 : Int64)) i) i) i + 1 else (fun i => if i = cb.toNatClampNeg then (fun i => if i = ca.toNatClampNeg then (fun _ => (0 : Int64)) i + 1 else (fun _ => (0 : Int64)) i) i + 1 else (fun i => if i = ca.toNatClampNeg then (fun _ => (0 : Int64)) i + 1 else (fun _ => (0 : Int64)) i) i) i) qq.toNatClampNeg))])
          have N120 := Fr.app N115 Nc
          have e120 := ec
          refine Rch.go (fun _ q => XS.lload X120.here hx rfl (hb hby at_182) rfl  q) ?_
          show Rch p ev below _ T120 (mkF m 184 #[.val (.int p1), .val (.int p2), .val (.int p3), .val (.int p4), .val (.int p5), .val (.int ca), .val (.int cb), .val (.int cc), .val (.int (1 : Int32)), .val (.int (p5 &&& (3 : Int32))), .val (.int qq), .val (.ref co), .val (.long ((fun _ => (0 : Int64)) qq.toNatClampNeg)), .second, .val (.long (((0 : Int64) + (1 : Int64)) + (1 : Int64))), .second] [(.long (((0 : Int64) + (1 : Int64)) + (1 : Int64))), (.long ((fun i => if i = cc.toNatClampNeg then (fun i => if i = cb.toNatClampNeg then (fun i => if i = ca.toNatClampNeg then (fun _ => (0 : Int64)) i + 1 else (fun _ => (0 : Int64)) i) i + 1 else (fun i => if i = ca.toNatClampNeg then (fun _ => (0 : Int64)) i + 1 else (fun _ => (0 : Int64)) i) i) i + 1 else (fun i => if i = cb.toNatClampNeg then (fun i => if i = ca.toNatClampNeg then (fun _ => (0 : Int64)) i + 1 else (fun _ => (0 : Int64)) i) i + 1 else (fun i => if i = ca.toNatClampNeg then (fun _ => (0 : Int64)) i + 1 else (fun _ => (0 : Int64)) i) i) i) qq.toNatClampNeg))])
          refine Rch.go (fun _ q => XS.lcmp X120.here hx rfl (hb hby at_184) rfl q) ?_
          show Rch p ev below _ T120 (mkF m 185 #[.val (.int p1), .val (.int p2), .val (.int p3), .val (.int p4), .val (.int p5), .val (.int ca), .val (.int cb), .val (.int cc), .val (.int (1 : Int32)), .val (.int (p5 &&& (3 : Int32))), .val (.int qq), .val (.ref co), .val (.long ((fun _ => (0 : Int64)) qq.toNatClampNeg)), .second, .val (.long (((0 : Int64) + (1 : Int64)) + (1 : Int64))), .second] [(.int (lcmpW ((fun i => if i = cc.toNatClampNeg then (fun i => if i = cb.toNatClampNeg then (fun i => if i = ca.toNatClampNeg then (fun _ => (0 : Int64)) i + 1 else (fun _ => (0 : Int64)) i) i + 1 else (fun i => if i = ca.toNatClampNeg then (fun _ => (0 : Int64)) i + 1 else (fun _ => (0 : Int64)) i) i) i + 1 else (fun i => if i = cb.toNatClampNeg then (fun i => if i = ca.toNatClampNeg then (fun _ => (0 : Int64)) i + 1 else (fun _ => (0 : Int64)) i) i + 1 else (fun i => if i = ca.toNatClampNeg then (fun _ => (0 : Int64)) i + 1 else (fun _ => (0 : Int64)) i) i) i) qq.toNatClampNeg) (((0 : Int64) + (1 : Int64)) + (1 : Int64))))])
          have qhc127 := eq_false hc127
          have qhc139 := eq_true hc139
          have qhc157 := eq_true hc157
          have hq : ((fun i => if i = cc.toNatClampNeg then (fun i => if i = cb.toNatClampNeg then (fun i => if i = ca.toNatClampNeg then (fun _ => (0 : Int64)) i + 1 else (fun _ => (0 : Int64)) i) i + 1 else (fun i => if i = ca.toNatClampNeg then (fun _ => (0 : Int64)) i + 1 else (fun _ => (0 : Int64)) i) i) i + 1 else (fun i => if i = cb.toNatClampNeg then (fun i => if i = ca.toNatClampNeg then (fun _ => (0 : Int64)) i + 1 else (fun _ => (0 : Int64)) i) i + 1 else (fun i => if i = ca.toNatClampNeg then (fun _ => (0 : Int64)) i + 1 else (fun _ => (0 : Int64)) i) i) i) qq.toNatClampNeg) = (((0 : Int64) + (1 : Int64)) + (1 : Int64)) := by
            simp only [own_ti qq ca hqq ha.1, own_ti qq cb hqq hb'.1, own_ti qq cc hqq hc'.1, qhc127, qhc139, qhc157, if_true, if_false]; first | done | rfl | decide
          refine Rch.go (fun _ q => XS.ifNo X120.here hx rfl (hb hby at_185) rfl ((if0 _ _).trans (teq ((lw_eq _ _).mpr hq)).2) q) ?_
          show Rch p ev below _ T120 (mkF m 188 #[.val (.int p1), .val (.int p2), .val (.int p3), .val (.int p4), .val (.int p5), .val (.int ca), .val (.int cb), .val (.int cc), .val (.int (1 : Int32)), .val (.int (p5 &&& (3 : Int32))), .val (.int qq), .val (.ref co), .val (.long ((fun _ => (0 : Int64)) qq.toNatClampNeg)), .second, .val (.long (((0 : Int64) + (1 : Int64)) + (1 : Int64))), .second] [])
          refine Rch.go (fun _ q => XS.iconst X120.here hx rfl (hb hby at_188) q) ?_
          show Rch p ev below _ T120 (mkF m 189 #[.val (.int p1), .val (.int p2), .val (.int p3), .val (.int p4), .val (.int p5), .val (.int ca), .val (.int cb), .val (.int cc), .val (.int (1 : Int32)), .val (.int (p5 &&& (3 : Int32))), .val (.int qq), .val (.ref co), .val (.long ((fun _ => (0 : Int64)) qq.toNatClampNeg)), .second, .val (.long (((0 : Int64) + (1 : Int64)) + (1 : Int64))), .second] [(.int (1 : Int32))])
          refine Rch.go (fun _ q => XS.goto X120.here hx rfl (pc0 := 189) (pc' := 193) rfl (hb hby at_189) (by decide) (by decide) q) ?_
          show Rch p ev below _ T120 (mkF m 193 #[.val (.int p1), .val (.int p2), .val (.int p3), .val (.int p4), .val (.int p5), .val (.int ca), .val (.int cb), .val (.int cc), .val (.int (1 : Int32)), .val (.int (p5 &&& (3 : Int32))), .val (.int qq), .val (.ref co), .val (.long ((fun _ => (0 : Int64)) qq.toNatClampNeg)), .second, .val (.long (((0 : Int64) + (1 : Int64)) + (1 : Int64))), .second] [(.int (1 : Int32))])
          refine Rch.retZ X120 hx hlk Bd.returns (hb hby at_193) (by decide) (by decide) ?_
          unfold Qrm0
          exact ⟨rfl, N120⟩
        · skip
          refine Rch.go (fun _ q => XS.icmpYes X115.here hx rfl (pc0 := 157) (pc' := 164) rfl (hb hby at_157) rfl (feq hc157).2 (by decide) (by decide) q) ?_
          show Rch p ev below _ T115 (mkF m 164 #[.val (.int p1), .val (.int p2), .val (.int p3), .val (.int p4), .val (.int p5), .val (.int ca), .val (.int cb), .val (.int cc), .val (.int (1 : Int32)), .val (.int (p5 &&& (3 : Int32))), .val (.int qq), .val (.ref co), .val (.long ((fun _ => (0 : Int64)) qq.toNatClampNeg)), .second, .unset, .unset] [(.long ((0 : Int64) + (1 : Int64)))])
          refine Rch.go (fun _ q => XS.lconst X115.here hx rfl (hb hby at_164) q) ?_
          show Rch p ev below _ T115 (mkF m 165 #[.val (.int p1), .val (.int p2), .val (.int p3), .val (.int p4), .val (.int p5), .val (.int ca), .val (.int cb), .val (.int cc), .val (.int (1 : Int32)), .val (.int (p5 &&& (3 : Int32))), .val (.int qq), .val (.ref co), .val (.long ((fun _ => (0 : Int64)) qq.toNatClampNeg)), .second, .unset, .unset] [(.long (0 : Int64)), (.long ((0 : Int64) + (1 : Int64)))])
          refine Rch.go (fun _ q => XS.ladd X115.here hx rfl (hb hby at_165) rfl q) ?_
          show Rch p ev below _ T115 (mkF m 166 #[.val (.int p1), .val (.int p2), .val (.int p3), .val (.int p4), .val (.int p5), .val (.int ca), .val (.int cb), .val (.int cc), .val (.int (1 : Int32)), .val (.int (p5 &&& (3 : Int32))), .val (.int qq), .val (.ref co), .val (.long ((fun _ => (0 : Int64)) qq.toNatClampNeg)), .second, .unset, .unset] [(.long (((0 : Int64) + (1 : Int64)) + (0 : Int64)))])
          refine Rch.go (fun _ q => XS.lstore X115.here hx rfl (hb hby at_166) rfl (l' := #[.val (.int p1), .val (.int p2), .val (.int p3), .val (.int p4), .val (.int p5), .val (.int ca), .val (.int cb), .val (.int cc), .val (.int (1 : Int32)), .val (.int (p5 &&& (3 : Int32))), .val (.int qq), .val (.ref co), .val (.long ((fun _ => (0 : Int64)) qq.toNatClampNeg)), .second, .val (.long (((0 : Int64) + (1 : Int64)) + (0 : Int64))), .second]) rfl q) ?_
          show Rch p ev below _ T115 (mkF m 168 #[.val (.int p1), .val (.int p2), .val (.int p3), .val (.int p4), .val (.int p5), .val (.int ca), .val (.int cb), .val (.int cc), .val (.int (1 : Int32)), .val (.int (p5 &&& (3 : Int32))), .val (.int qq), .val (.ref co), .val (.long ((fun _ => (0 : Int64)) qq.toNatClampNeg)), .second, .val (.long (((0 : Int64) + (1 : Int64)) + (0 : Int64))), .second] [])
          refine Rch.go (fun _ q => XS.lload X115.here hx rfl (hb hby at_168) rfl  q) ?_
          show Rch p ev below _ T115 (mkF m 170 #[.val (.int p1), .val (.int p2), .val (.int p3), .val (.int p4), .val (.int p5), .val (.int ca), .val (.int cb), .val (.int cc), .val (.int (1 : Int32)), .val (.int (p5 &&& (3 : Int32))), .val (.int qq), .val (.ref co), .val (.long ((fun _ => (0 : Int64)) qq.toNatClampNeg)), .second, .val (.long (((0 : Int64) + (1 : Int64)) + (0 : Int64))), .second] [(.long ((fun _ => (0 : Int64)) qq.toNatClampNeg))])
          refine Rch.go (fun _ q => XS.lconst X115.here hx rfl (hb hby at_170) q) ?_
          show Rch p ev below _ T115 (mkF m 171 #[.val (.int p1), .val (.int p2), .val (.int p3), .val (.int p4), .val (.int p5), .val (.int ca), .val (.int cb), .val (.int cc), .val (.int (1 : Int32)), .val (.int (p5 &&& (3 : Int32))), .val (.int qq), .val (.ref co), .val (.long ((fun _ => (0 : Int64)) qq.toNatClampNeg)), .second, .val (.long (((0 : Int64) + (1 : Int64)) + (0 : Int64))), .second] [(.long (0 : Int64)), (.long ((fun _ => (0 : Int64)) qq.toNatClampNeg))])
          refine Rch.go (fun _ q => XS.lcmp X115.here hx rfl (hb hby at_171) rfl q) ?_
          show Rch p ev below _ T115 (mkF m 172 #[.val (.int p1), .val (.int p2), .val (.int p3), .val (.int p4), .val (.int p5), .val (.int ca), .val (.int cb), .val (.int cc), .val (.int (1 : Int32)), .val (.int (p5 &&& (3 : Int32))), .val (.int qq), .val (.ref co), .val (.long ((fun _ => (0 : Int64)) qq.toNatClampNeg)), .second, .val (.long (((0 : Int64) + (1 : Int64)) + (0 : Int64))), .second] [(.int (lcmpW ((fun _ => (0 : Int64)) qq.toNatClampNeg) (0 : Int64)))])
          refine Rch.go (fun _ q => XS.ifNo X115.here hx rfl (hb hby at_172) rfl ((if0 _ _).trans (teq ((lw_eq _ _).mpr rfl)).2) q) ?_
          show Rch p ev below _ T115 (mkF m 175 #[.val (.int p1), .val (.int p2), .val (.int p3), .val (.int p4), .val (.int p5), .val (.int ca), .val (.int cb), .val (.int cc), .val (.int (1 : Int32)), .val (.int (p5 &&& (3 : Int32))), .val (.int qq), .val (.ref co), .val (.long ((fun _ => (0 : Int64)) qq.toNatClampNeg)), .second, .val (.long (((0 : Int64) + (1 : Int64)) + (0 : Int64))), .second] [])
          refine Rch.go (fun _ q => XS.aload X115.here hx rfl (hb hby at_175) rfl rfl q) ?_
          show Rch p ev below _ T115 (mkF m 177 #[.val (.int p1), .val (.int p2), .val (.int p3), .val (.int p4), .val (.int p5), .val (.int ca), .val (.int cb), .val (.int cc), .val (.int (1 : Int32)), .val (.int (p5 &&& (3 : Int32))), .val (.int qq), .val (.ref co), .val (.long ((fun _ => (0 : Int64)) qq.toNatClampNeg)), .second, .val (.long (((0 : Int64) + (1 : Int64)) + (0 : Int64))), .second] [(.ref co)])
          refine Rch.go (fun _ q => XS.iload X115.here hx rfl (hb hby at_177) rfl  q) ?_
          show Rch p ev below _ T115 (mkF m 179 #[.val (.int p1), .val (.int p2), .val (.int p3), .val (.int p4), .val (.int p5), .val (.int ca), .val (.int cb), .val (.int cc), .val (.int (1 : Int32)), .val (.int (p5 &&& (3 : Int32))), .val (.int qq), .val (.ref co), .val (.long ((fun _ => (0 : Int64)) qq.toNatClampNeg)), .second, .val (.long (((0 : Int64) + (1 : Int64)) + (0 : Int64))), .second] [(.int qq), (.ref co)])
          obtain ⟨cq121, kq121, q121a, q121b, q121c⟩ := isOf hZ rfl (own_exa Cc115)
          obtain ⟨_, _, ⟨T121, L121, k121, n121⟩, -, X121, ⟨Lc121, hQ121, l121, y121, z121⟩, st121⟩ := X115.virtualBack hx (y := (⟨"com/example/pocket_reasoner/pocketreasoner/tableau/ConceptCounts", "of", "(I)J"⟩ : MethodName)) (z := (⟨"com/example/pocket_reasoner/pocketreasoner/tableau/ConceptCounts", "of", "(I)J"⟩ : MethodName)) hown (mvT hZ (hw _ (List.mem_of_getElem? (i := 12) rfl))) (mvT hZ (hw _ (List.mem_of_getElem? (i := 13) rfl))) (notFace_of_selects (args := #[]) (mvT hZ (hw _ (List.mem_of_getElem? (i := 15) rfl)))) (mvT hZ (hw _ (List.mem_of_getElem? (i := 15) rfl))) (mvT hZ (hw _ (List.mem_of_getElem? (i := 14) rfl))) (by decide) (backOf (W := 0) (rm5 l Z a0 hw [] co qq zc115 (fun i => if i = cc.toNatClampNeg then (fun i => if i = cb.toNatClampNeg then (fun i => if i = ca.toNatClampNeg then (fun _ => (0 : Int64)) i + 1 else (fun _ => (0 : Int64)) i) i + 1 else (fun i => if i = ca.toNatClampNeg then (fun _ => (0 : Int64)) i + 1 else (fun _ => (0 : Int64)) i) i) i + 1 else (fun i => if i = cb.toNatClampNeg then (fun i => if i = ca.toNatClampNeg then (fun _ => (0 : Int64)) i + 1 else (fun _ => (0 : Int64)) i) i + 1 else (fun i => if i = ca.toNatClampNeg then (fun _ => (0 : Int64)) i + 1 else (fun _ => (0 : Int64)) i) i) i) T115.heap n0 Zc115 Cc115 hqq) hZ (hw _ (List.mem_of_getElem? (i := 16) rfl)) (hw _ (List.mem_of_getElem? (i := 2) rfl)) (by decide) (by decide)) q121a q121c (g := (mkF m 179 #[.val (.int p1), .val (.int p2), .val (.int p3), .val (.int p4), .val (.int p5), .val (.int ca), .val (.int cb), .val (.int cc), .val (.int (1 : Int32)), .val (.int (p5 &&& (3 : Int32))), .val (.int qq), .val (.ref co), .val (.long ((fun _ => (0 : Int64)) qq.toNatClampNeg)), .second, .val (.long (((0 : Int64) + (1 : Int64)) + (0 : Int64))), .second] [(.int qq), (.ref co)])) rfl (by rw [hml]; rfl) (Steps.refl _) (argsL := [(.int qq)]) (rest := []) (lenOf own_pd3 rfl) rfl (by show 2 * 0 + _ ≤ _; exact Nat.le_of_eq rfl) (hb hby at_179) (fun _ _ => ⟨rfl, rfl, (by decide : 5 + 0 ≤ _), (by decide : 1595 + 0 ≤ _)⟩)
          dsimp only [Pt.U, Pt.locs, Pt.cells, Pt.slots] at X121 l121 y121 z121 st121 hQ121
          subst l121 y121 z121
          obtain ⟨rfl, Nc, ec⟩ := hQ121
          refine Rch.jump st121 ?_
          show Rch p ev below _ T121 (mkF m 182 #[.val (.int p1), .val (.int p2), .val (.int p3), .val (.int p4), .val (.int p5), .val (.int ca), .val (.int cb), .val (.int cc), .val (.int (1 : Int32)), .val (.int (p5 &&& (3 : Int32))), .val (.int qq), .val (.ref co), .val (.long ((fun _ => (0 : Int64)) qq.toNatClampNeg)), .second, .val (.long (((0 : Int64) + (1 : Int64)) + (0 : Int64))), .second] [(.long ((fun i => if i = cc.toNatClampNeg then (fun i => if i = cb.toNatClampNeg then (fun i => if i = ca.toNatClampNeg then (fun _ => (0 : Int64)) i + 1 else (fun _ => (0 : Int64)) i) i + 1 else (fun i => if i = ca.toNatClampNeg then (fun _ => (0 : Int64)) i + 1 else (fun _ => (0 : Int64)) i) i) i + 1 else (fun i => if i = cb.toNatClampNeg then (fun i => if i = ca.toNatClampNeg then (fun _ => (0 : Int64)) i + 1 else (fun _ => (0 : Int64)) i) i + 1 else (fun i => if i = ca.toNatClampNeg then (fun _ => (0 : Int64)) i + 1 else (fun _ => (0 : Int64)) i) i) i) qq.toNatClampNeg))])
          have N121 := Fr.app N115 Nc
          have e121 := ec
          refine Rch.go (fun _ q => XS.lload X121.here hx rfl (hb hby at_182) rfl  q) ?_
          show Rch p ev below _ T121 (mkF m 184 #[.val (.int p1), .val (.int p2), .val (.int p3), .val (.int p4), .val (.int p5), .val (.int ca), .val (.int cb), .val (.int cc), .val (.int (1 : Int32)), .val (.int (p5 &&& (3 : Int32))), .val (.int qq), .val (.ref co), .val (.long ((fun _ => (0 : Int64)) qq.toNatClampNeg)), .second, .val (.long (((0 : Int64) + (1 : Int64)) + (0 : Int64))), .second] [(.long (((0 : Int64) + (1 : Int64)) + (0 : Int64))), (.long ((fun i => if i = cc.toNatClampNeg then (fun i => if i = cb.toNatClampNeg then (fun i => if i = ca.toNatClampNeg then (fun _ => (0 : Int64)) i + 1 else (fun _ => (0 : Int64)) i) i + 1 else (fun i => if i = ca.toNatClampNeg then (fun _ => (0 : Int64)) i + 1 else (fun _ => (0 : Int64)) i) i) i + 1 else (fun i => if i = cb.toNatClampNeg then (fun i => if i = ca.toNatClampNeg then (fun _ => (0 : Int64)) i + 1 else (fun _ => (0 : Int64)) i) i + 1 else (fun i => if i = ca.toNatClampNeg then (fun _ => (0 : Int64)) i + 1 else (fun _ => (0 : Int64)) i) i) i) qq.toNatClampNeg))])
          refine Rch.go (fun _ q => XS.lcmp X121.here hx rfl (hb hby at_184) rfl q) ?_
          show Rch p ev below _ T121 (mkF m 185 #[.val (.int p1), .val (.int p2), .val (.int p3), .val (.int p4), .val (.int p5), .val (.int ca), .val (.int cb), .val (.int cc), .val (.int (1 : Int32)), .val (.int (p5 &&& (3 : Int32))), .val (.int qq), .val (.ref co), .val (.long ((fun _ => (0 : Int64)) qq.toNatClampNeg)), .second, .val (.long (((0 : Int64) + (1 : Int64)) + (0 : Int64))), .second] [(.int (lcmpW ((fun i => if i = cc.toNatClampNeg then (fun i => if i = cb.toNatClampNeg then (fun i => if i = ca.toNatClampNeg then (fun _ => (0 : Int64)) i + 1 else (fun _ => (0 : Int64)) i) i + 1 else (fun i => if i = ca.toNatClampNeg then (fun _ => (0 : Int64)) i + 1 else (fun _ => (0 : Int64)) i) i) i + 1 else (fun i => if i = cb.toNatClampNeg then (fun i => if i = ca.toNatClampNeg then (fun _ => (0 : Int64)) i + 1 else (fun _ => (0 : Int64)) i) i + 1 else (fun i => if i = ca.toNatClampNeg then (fun _ => (0 : Int64)) i + 1 else (fun _ => (0 : Int64)) i) i) i) qq.toNatClampNeg) (((0 : Int64) + (1 : Int64)) + (0 : Int64))))])
          have qhc127 := eq_false hc127
          have qhc139 := eq_true hc139
          have qhc157 := eq_false hc157
          have hq : ((fun i => if i = cc.toNatClampNeg then (fun i => if i = cb.toNatClampNeg then (fun i => if i = ca.toNatClampNeg then (fun _ => (0 : Int64)) i + 1 else (fun _ => (0 : Int64)) i) i + 1 else (fun i => if i = ca.toNatClampNeg then (fun _ => (0 : Int64)) i + 1 else (fun _ => (0 : Int64)) i) i) i + 1 else (fun i => if i = cb.toNatClampNeg then (fun i => if i = ca.toNatClampNeg then (fun _ => (0 : Int64)) i + 1 else (fun _ => (0 : Int64)) i) i + 1 else (fun i => if i = ca.toNatClampNeg then (fun _ => (0 : Int64)) i + 1 else (fun _ => (0 : Int64)) i) i) i) qq.toNatClampNeg) = (((0 : Int64) + (1 : Int64)) + (0 : Int64)) := by
            simp only [own_ti qq ca hqq ha.1, own_ti qq cb hqq hb'.1, own_ti qq cc hqq hc'.1, qhc127, qhc139, qhc157, if_true, if_false]; first | done | rfl | decide
          refine Rch.go (fun _ q => XS.ifNo X121.here hx rfl (hb hby at_185) rfl ((if0 _ _).trans (teq ((lw_eq _ _).mpr hq)).2) q) ?_
          show Rch p ev below _ T121 (mkF m 188 #[.val (.int p1), .val (.int p2), .val (.int p3), .val (.int p4), .val (.int p5), .val (.int ca), .val (.int cb), .val (.int cc), .val (.int (1 : Int32)), .val (.int (p5 &&& (3 : Int32))), .val (.int qq), .val (.ref co), .val (.long ((fun _ => (0 : Int64)) qq.toNatClampNeg)), .second, .val (.long (((0 : Int64) + (1 : Int64)) + (0 : Int64))), .second] [])
          refine Rch.go (fun _ q => XS.iconst X121.here hx rfl (hb hby at_188) q) ?_
          show Rch p ev below _ T121 (mkF m 189 #[.val (.int p1), .val (.int p2), .val (.int p3), .val (.int p4), .val (.int p5), .val (.int ca), .val (.int cb), .val (.int cc), .val (.int (1 : Int32)), .val (.int (p5 &&& (3 : Int32))), .val (.int qq), .val (.ref co), .val (.long ((fun _ => (0 : Int64)) qq.toNatClampNeg)), .second, .val (.long (((0 : Int64) + (1 : Int64)) + (0 : Int64))), .second] [(.int (1 : Int32))])
          refine Rch.go (fun _ q => XS.goto X121.here hx rfl (pc0 := 189) (pc' := 193) rfl (hb hby at_189) (by decide) (by decide) q) ?_
          show Rch p ev below _ T121 (mkF m 193 #[.val (.int p1), .val (.int p2), .val (.int p3), .val (.int p4), .val (.int p5), .val (.int ca), .val (.int cb), .val (.int cc), .val (.int (1 : Int32)), .val (.int (p5 &&& (3 : Int32))), .val (.int qq), .val (.ref co), .val (.long ((fun _ => (0 : Int64)) qq.toNatClampNeg)), .second, .val (.long (((0 : Int64) + (1 : Int64)) + (0 : Int64))), .second] [(.int (1 : Int32))])
          refine Rch.retZ X121 hx hlk Bd.returns (hb hby at_193) (by decide) (by decide) ?_
          unfold Qrm0
          exact ⟨rfl, N121⟩
      · skip
        refine Rch.go (fun _ q => XS.icmpYes X115.here hx rfl (pc0 := 139) (pc' := 146) rfl (hb hby at_139) rfl (feq hc139).2 (by decide) (by decide) q) ?_
        show Rch p ev below _ T115 (mkF m 146 #[.val (.int p1), .val (.int p2), .val (.int p3), .val (.int p4), .val (.int p5), .val (.int ca), .val (.int cb), .val (.int cc), .val (.int (1 : Int32)), .val (.int (p5 &&& (3 : Int32))), .val (.int qq), .val (.ref co), .val (.long ((fun _ => (0 : Int64)) qq.toNatClampNeg)), .second, .unset, .unset] [(.long (0 : Int64))])
        refine Rch.go (fun _ q => XS.lconst X115.here hx rfl (hb hby at_146) q) ?_
        show Rch p ev below _ T115 (mkF m 147 #[.val (.int p1), .val (.int p2), .val (.int p3), .val (.int p4), .val (.int p5), .val (.int ca), .val (.int cb), .val (.int cc), .val (.int (1 : Int32)), .val (.int (p5 &&& (3 : Int32))), .val (.int qq), .val (.ref co), .val (.long ((fun _ => (0 : Int64)) qq.toNatClampNeg)), .second, .unset, .unset] [(.long (0 : Int64)), (.long (0 : Int64))])
        refine Rch.go (fun _ q => XS.ladd X115.here hx rfl (hb hby at_147) rfl q) ?_
        show Rch p ev below _ T115 (mkF m 148 #[.val (.int p1), .val (.int p2), .val (.int p3), .val (.int p4), .val (.int p5), .val (.int ca), .val (.int cb), .val (.int cc), .val (.int (1 : Int32)), .val (.int (p5 &&& (3 : Int32))), .val (.int qq), .val (.ref co), .val (.long ((fun _ => (0 : Int64)) qq.toNatClampNeg)), .second, .unset, .unset] [(.long ((0 : Int64) + (0 : Int64)))])
        refine Rch.go (fun _ q => XS.iload X115.here hx rfl (hb hby at_148) rfl  q) ?_
        show Rch p ev below _ T115 (mkF m 150 #[.val (.int p1), .val (.int p2), .val (.int p3), .val (.int p4), .val (.int p5), .val (.int ca), .val (.int cb), .val (.int cc), .val (.int (1 : Int32)), .val (.int (p5 &&& (3 : Int32))), .val (.int qq), .val (.ref co), .val (.long ((fun _ => (0 : Int64)) qq.toNatClampNeg)), .second, .unset, .unset] [(.int (1 : Int32)), (.long ((0 : Int64) + (0 : Int64)))])
        refine Rch.go (fun _ q => XS.ifNo X115.here hx rfl (hb hby at_150) rfl ((if0 _ _).trans (feq (by decide)).1) q) ?_
        show Rch p ev below _ T115 (mkF m 153 #[.val (.int p1), .val (.int p2), .val (.int p3), .val (.int p4), .val (.int p5), .val (.int ca), .val (.int cb), .val (.int cc), .val (.int (1 : Int32)), .val (.int (p5 &&& (3 : Int32))), .val (.int qq), .val (.ref co), .val (.long ((fun _ => (0 : Int64)) qq.toNatClampNeg)), .second, .unset, .unset] [(.long ((0 : Int64) + (0 : Int64)))])
        refine Rch.go (fun _ q => XS.iload X115.here hx rfl (hb hby at_153) rfl  q) ?_
        show Rch p ev below _ T115 (mkF m 155 #[.val (.int p1), .val (.int p2), .val (.int p3), .val (.int p4), .val (.int p5), .val (.int ca), .val (.int cb), .val (.int cc), .val (.int (1 : Int32)), .val (.int (p5 &&& (3 : Int32))), .val (.int qq), .val (.ref co), .val (.long ((fun _ => (0 : Int64)) qq.toNatClampNeg)), .second, .unset, .unset] [(.int qq), (.long ((0 : Int64) + (0 : Int64)))])
        refine Rch.go (fun _ q => XS.iload X115.here hx rfl (hb hby at_155) rfl  q) ?_
        show Rch p ev below _ T115 (mkF m 157 #[.val (.int p1), .val (.int p2), .val (.int p3), .val (.int p4), .val (.int p5), .val (.int ca), .val (.int cb), .val (.int cc), .val (.int (1 : Int32)), .val (.int (p5 &&& (3 : Int32))), .val (.int qq), .val (.ref co), .val (.long ((fun _ => (0 : Int64)) qq.toNatClampNeg)), .second, .unset, .unset] [(.int cc), (.int qq), (.long ((0 : Int64) + (0 : Int64)))])
        by_cases hc157 : qq = cc
        · skip
          refine Rch.go (fun _ q => XS.icmpNo X115.here hx rfl (hb hby at_157) rfl (teq hc157).2 q) ?_
          show Rch p ev below _ T115 (mkF m 160 #[.val (.int p1), .val (.int p2), .val (.int p3), .val (.int p4), .val (.int p5), .val (.int ca), .val (.int cb), .val (.int cc), .val (.int (1 : Int32)), .val (.int (p5 &&& (3 : Int32))), .val (.int qq), .val (.ref co), .val (.long ((fun _ => (0 : Int64)) qq.toNatClampNeg)), .second, .unset, .unset] [(.long ((0 : Int64) + (0 : Int64)))])
          refine Rch.go (fun _ q => XS.lconst X115.here hx rfl (hb hby at_160) q) ?_
          show Rch p ev below _ T115 (mkF m 161 #[.val (.int p1), .val (.int p2), .val (.int p3), .val (.int p4), .val (.int p5), .val (.int ca), .val (.int cb), .val (.int cc), .val (.int (1 : Int32)), .val (.int (p5 &&& (3 : Int32))), .val (.int qq), .val (.ref co), .val (.long ((fun _ => (0 : Int64)) qq.toNatClampNeg)), .second, .unset, .unset] [(.long (1 : Int64)), (.long ((0 : Int64) + (0 : Int64)))])
          refine Rch.go (fun _ q => XS.goto X115.here hx rfl (pc0 := 161) (pc' := 165) rfl (hb hby at_161) (by decide) (by decide) q) ?_
          show Rch p ev below _ T115 (mkF m 165 #[.val (.int p1), .val (.int p2), .val (.int p3), .val (.int p4), .val (.int p5), .val (.int ca), .val (.int cb), .val (.int cc), .val (.int (1 : Int32)), .val (.int (p5 &&& (3 : Int32))), .val (.int qq), .val (.ref co), .val (.long ((fun _ => (0 : Int64)) qq.toNatClampNeg)), .second, .unset, .unset] [(.long (1 : Int64)), (.long ((0 : Int64) + (0 : Int64)))])
          refine Rch.go (fun _ q => XS.ladd X115.here hx rfl (hb hby at_165) rfl q) ?_
          show Rch p ev below _ T115 (mkF m 166 #[.val (.int p1), .val (.int p2), .val (.int p3), .val (.int p4), .val (.int p5), .val (.int ca), .val (.int cb), .val (.int cc), .val (.int (1 : Int32)), .val (.int (p5 &&& (3 : Int32))), .val (.int qq), .val (.ref co), .val (.long ((fun _ => (0 : Int64)) qq.toNatClampNeg)), .second, .unset, .unset] [(.long (((0 : Int64) + (0 : Int64)) + (1 : Int64)))])
          refine Rch.go (fun _ q => XS.lstore X115.here hx rfl (hb hby at_166) rfl (l' := #[.val (.int p1), .val (.int p2), .val (.int p3), .val (.int p4), .val (.int p5), .val (.int ca), .val (.int cb), .val (.int cc), .val (.int (1 : Int32)), .val (.int (p5 &&& (3 : Int32))), .val (.int qq), .val (.ref co), .val (.long ((fun _ => (0 : Int64)) qq.toNatClampNeg)), .second, .val (.long (((0 : Int64) + (0 : Int64)) + (1 : Int64))), .second]) rfl q) ?_
          show Rch p ev below _ T115 (mkF m 168 #[.val (.int p1), .val (.int p2), .val (.int p3), .val (.int p4), .val (.int p5), .val (.int ca), .val (.int cb), .val (.int cc), .val (.int (1 : Int32)), .val (.int (p5 &&& (3 : Int32))), .val (.int qq), .val (.ref co), .val (.long ((fun _ => (0 : Int64)) qq.toNatClampNeg)), .second, .val (.long (((0 : Int64) + (0 : Int64)) + (1 : Int64))), .second] [])
          refine Rch.go (fun _ q => XS.lload X115.here hx rfl (hb hby at_168) rfl  q) ?_
          show Rch p ev below _ T115 (mkF m 170 #[.val (.int p1), .val (.int p2), .val (.int p3), .val (.int p4), .val (.int p5), .val (.int ca), .val (.int cb), .val (.int cc), .val (.int (1 : Int32)), .val (.int (p5 &&& (3 : Int32))), .val (.int qq), .val (.ref co), .val (.long ((fun _ => (0 : Int64)) qq.toNatClampNeg)), .second, .val (.long (((0 : Int64) + (0 : Int64)) + (1 : Int64))), .second] [(.long ((fun _ => (0 : Int64)) qq.toNatClampNeg))])
          refine Rch.go (fun _ q => XS.lconst X115.here hx rfl (hb hby at_170) q) ?_
          show Rch p ev below _ T115 (mkF m 171 #[.val (.int p1), .val (.int p2), .val (.int p3), .val (.int p4), .val (.int p5), .val (.int ca), .val (.int cb), .val (.int cc), .val (.int (1 : Int32)), .val (.int (p5 &&& (3 : Int32))), .val (.int qq), .val (.ref co), .val (.long ((fun _ => (0 : Int64)) qq.toNatClampNeg)), .second, .val (.long (((0 : Int64) + (0 : Int64)) + (1 : Int64))), .second] [(.long (0 : Int64)), (.long ((fun _ => (0 : Int64)) qq.toNatClampNeg))])
          refine Rch.go (fun _ q => XS.lcmp X115.here hx rfl (hb hby at_171) rfl q) ?_
          show Rch p ev below _ T115 (mkF m 172 #[.val (.int p1), .val (.int p2), .val (.int p3), .val (.int p4), .val (.int p5), .val (.int ca), .val (.int cb), .val (.int cc), .val (.int (1 : Int32)), .val (.int (p5 &&& (3 : Int32))), .val (.int qq), .val (.ref co), .val (.long ((fun _ => (0 : Int64)) qq.toNatClampNeg)), .second, .val (.long (((0 : Int64) + (0 : Int64)) + (1 : Int64))), .second] [(.int (lcmpW ((fun _ => (0 : Int64)) qq.toNatClampNeg) (0 : Int64)))])
          refine Rch.go (fun _ q => XS.ifNo X115.here hx rfl (hb hby at_172) rfl ((if0 _ _).trans (teq ((lw_eq _ _).mpr rfl)).2) q) ?_
          show Rch p ev below _ T115 (mkF m 175 #[.val (.int p1), .val (.int p2), .val (.int p3), .val (.int p4), .val (.int p5), .val (.int ca), .val (.int cb), .val (.int cc), .val (.int (1 : Int32)), .val (.int (p5 &&& (3 : Int32))), .val (.int qq), .val (.ref co), .val (.long ((fun _ => (0 : Int64)) qq.toNatClampNeg)), .second, .val (.long (((0 : Int64) + (0 : Int64)) + (1 : Int64))), .second] [])
          refine Rch.go (fun _ q => XS.aload X115.here hx rfl (hb hby at_175) rfl rfl q) ?_
          show Rch p ev below _ T115 (mkF m 177 #[.val (.int p1), .val (.int p2), .val (.int p3), .val (.int p4), .val (.int p5), .val (.int ca), .val (.int cb), .val (.int cc), .val (.int (1 : Int32)), .val (.int (p5 &&& (3 : Int32))), .val (.int qq), .val (.ref co), .val (.long ((fun _ => (0 : Int64)) qq.toNatClampNeg)), .second, .val (.long (((0 : Int64) + (0 : Int64)) + (1 : Int64))), .second] [(.ref co)])
          refine Rch.go (fun _ q => XS.iload X115.here hx rfl (hb hby at_177) rfl  q) ?_
          show Rch p ev below _ T115 (mkF m 179 #[.val (.int p1), .val (.int p2), .val (.int p3), .val (.int p4), .val (.int p5), .val (.int ca), .val (.int cb), .val (.int cc), .val (.int (1 : Int32)), .val (.int (p5 &&& (3 : Int32))), .val (.int qq), .val (.ref co), .val (.long ((fun _ => (0 : Int64)) qq.toNatClampNeg)), .second, .val (.long (((0 : Int64) + (0 : Int64)) + (1 : Int64))), .second] [(.int qq), (.ref co)])
          obtain ⟨cq122, kq122, q122a, q122b, q122c⟩ := isOf hZ rfl (own_exa Cc115)
          obtain ⟨_, _, ⟨T122, L122, k122, n122⟩, -, X122, ⟨Lc122, hQ122, l122, y122, z122⟩, st122⟩ := X115.virtualBack hx (y := (⟨"com/example/pocket_reasoner/pocketreasoner/tableau/ConceptCounts", "of", "(I)J"⟩ : MethodName)) (z := (⟨"com/example/pocket_reasoner/pocketreasoner/tableau/ConceptCounts", "of", "(I)J"⟩ : MethodName)) hown (mvT hZ (hw _ (List.mem_of_getElem? (i := 12) rfl))) (mvT hZ (hw _ (List.mem_of_getElem? (i := 13) rfl))) (notFace_of_selects (args := #[]) (mvT hZ (hw _ (List.mem_of_getElem? (i := 15) rfl)))) (mvT hZ (hw _ (List.mem_of_getElem? (i := 15) rfl))) (mvT hZ (hw _ (List.mem_of_getElem? (i := 14) rfl))) (by decide) (backOf (W := 0) (rm5 l Z a0 hw [] co qq zc115 (fun i => if i = cc.toNatClampNeg then (fun i => if i = cb.toNatClampNeg then (fun i => if i = ca.toNatClampNeg then (fun _ => (0 : Int64)) i + 1 else (fun _ => (0 : Int64)) i) i + 1 else (fun i => if i = ca.toNatClampNeg then (fun _ => (0 : Int64)) i + 1 else (fun _ => (0 : Int64)) i) i) i + 1 else (fun i => if i = cb.toNatClampNeg then (fun i => if i = ca.toNatClampNeg then (fun _ => (0 : Int64)) i + 1 else (fun _ => (0 : Int64)) i) i + 1 else (fun i => if i = ca.toNatClampNeg then (fun _ => (0 : Int64)) i + 1 else (fun _ => (0 : Int64)) i) i) i) T115.heap n0 Zc115 Cc115 hqq) hZ (hw _ (List.mem_of_getElem? (i := 16) rfl)) (hw _ (List.mem_of_getElem? (i := 2) rfl)) (by decide) (by decide)) q122a q122c (g := (mkF m 179 #[.val (.int p1), .val (.int p2), .val (.int p3), .val (.int p4), .val (.int p5), .val (.int ca), .val (.int cb), .val (.int cc), .val (.int (1 : Int32)), .val (.int (p5 &&& (3 : Int32))), .val (.int qq), .val (.ref co), .val (.long ((fun _ => (0 : Int64)) qq.toNatClampNeg)), .second, .val (.long (((0 : Int64) + (0 : Int64)) + (1 : Int64))), .second] [(.int qq), (.ref co)])) rfl (by rw [hml]; rfl) (Steps.refl _) (argsL := [(.int qq)]) (rest := []) (lenOf own_pd3 rfl) rfl (by show 2 * 0 + _ ≤ _; exact Nat.le_of_eq rfl) (hb hby at_179) (fun _ _ => ⟨rfl, rfl, (by decide : 5 + 0 ≤ _), (by decide : 1595 + 0 ≤ _)⟩)
          dsimp only [Pt.U, Pt.locs, Pt.cells, Pt.slots] at X122 l122 y122 z122 st122 hQ122
          subst l122 y122 z122
          obtain ⟨rfl, Nc, ec⟩ := hQ122
          refine Rch.jump st122 ?_
          show Rch p ev below _ T122 (mkF m 182 #[.val (.int p1), .val (.int p2), .val (.int p3), .val (.int p4), .val (.int p5), .val (.int ca), .val (.int cb), .val (.int cc), .val (.int (1 : Int32)), .val (.int (p5 &&& (3 : Int32))), .val (.int qq), .val (.ref co), .val (.long ((fun _ => (0 : Int64)) qq.toNatClampNeg)), .second, .val (.long (((0 : Int64) + (0 : Int64)) + (1 : Int64))), .second] [(.long ((fun i => if i = cc.toNatClampNeg then (fun i => if i = cb.toNatClampNeg then (fun i => if i = ca.toNatClampNeg then (fun _ => (0 : Int64)) i + 1 else (fun _ => (0 : Int64)) i) i + 1 else (fun i => if i = ca.toNatClampNeg then (fun _ => (0 : Int64)) i + 1 else (fun _ => (0 : Int64)) i) i) i + 1 else (fun i => if i = cb.toNatClampNeg then (fun i => if i = ca.toNatClampNeg then (fun _ => (0 : Int64)) i + 1 else (fun _ => (0 : Int64)) i) i + 1 else (fun i => if i = ca.toNatClampNeg then (fun _ => (0 : Int64)) i + 1 else (fun _ => (0 : Int64)) i) i) i) qq.toNatClampNeg))])
          have N122 := Fr.app N115 Nc
          have e122 := ec
          refine Rch.go (fun _ q => XS.lload X122.here hx rfl (hb hby at_182) rfl  q) ?_
          show Rch p ev below _ T122 (mkF m 184 #[.val (.int p1), .val (.int p2), .val (.int p3), .val (.int p4), .val (.int p5), .val (.int ca), .val (.int cb), .val (.int cc), .val (.int (1 : Int32)), .val (.int (p5 &&& (3 : Int32))), .val (.int qq), .val (.ref co), .val (.long ((fun _ => (0 : Int64)) qq.toNatClampNeg)), .second, .val (.long (((0 : Int64) + (0 : Int64)) + (1 : Int64))), .second] [(.long (((0 : Int64) + (0 : Int64)) + (1 : Int64))), (.long ((fun i => if i = cc.toNatClampNeg then (fun i => if i = cb.toNatClampNeg then (fun i => if i = ca.toNatClampNeg then (fun _ => (0 : Int64)) i + 1 else (fun _ => (0 : Int64)) i) i + 1 else (fun i => if i = ca.toNatClampNeg then (fun _ => (0 : Int64)) i + 1 else (fun _ => (0 : Int64)) i) i) i + 1 else (fun i => if i = cb.toNatClampNeg then (fun i => if i = ca.toNatClampNeg then (fun _ => (0 : Int64)) i + 1 else (fun _ => (0 : Int64)) i) i + 1 else (fun i => if i = ca.toNatClampNeg then (fun _ => (0 : Int64)) i + 1 else (fun _ => (0 : Int64)) i) i) i) qq.toNatClampNeg))])
          refine Rch.go (fun _ q => XS.lcmp X122.here hx rfl (hb hby at_184) rfl q) ?_
          show Rch p ev below _ T122 (mkF m 185 #[.val (.int p1), .val (.int p2), .val (.int p3), .val (.int p4), .val (.int p5), .val (.int ca), .val (.int cb), .val (.int cc), .val (.int (1 : Int32)), .val (.int (p5 &&& (3 : Int32))), .val (.int qq), .val (.ref co), .val (.long ((fun _ => (0 : Int64)) qq.toNatClampNeg)), .second, .val (.long (((0 : Int64) + (0 : Int64)) + (1 : Int64))), .second] [(.int (lcmpW ((fun i => if i = cc.toNatClampNeg then (fun i => if i = cb.toNatClampNeg then (fun i => if i = ca.toNatClampNeg then (fun _ => (0 : Int64)) i + 1 else (fun _ => (0 : Int64)) i) i + 1 else (fun i => if i = ca.toNatClampNeg then (fun _ => (0 : Int64)) i + 1 else (fun _ => (0 : Int64)) i) i) i + 1 else (fun i => if i = cb.toNatClampNeg then (fun i => if i = ca.toNatClampNeg then (fun _ => (0 : Int64)) i + 1 else (fun _ => (0 : Int64)) i) i + 1 else (fun i => if i = ca.toNatClampNeg then (fun _ => (0 : Int64)) i + 1 else (fun _ => (0 : Int64)) i) i) i) qq.toNatClampNeg) (((0 : Int64) + (0 : Int64)) + (1 : Int64))))])
          have qhc127 := eq_false hc127
          have qhc139 := eq_false hc139
          have qhc157 := eq_true hc157
          have hq : ((fun i => if i = cc.toNatClampNeg then (fun i => if i = cb.toNatClampNeg then (fun i => if i = ca.toNatClampNeg then (fun _ => (0 : Int64)) i + 1 else (fun _ => (0 : Int64)) i) i + 1 else (fun i => if i = ca.toNatClampNeg then (fun _ => (0 : Int64)) i + 1 else (fun _ => (0 : Int64)) i) i) i + 1 else (fun i => if i = cb.toNatClampNeg then (fun i => if i = ca.toNatClampNeg then (fun _ => (0 : Int64)) i + 1 else (fun _ => (0 : Int64)) i) i + 1 else (fun i => if i = ca.toNatClampNeg then (fun _ => (0 : Int64)) i + 1 else (fun _ => (0 : Int64)) i) i) i) qq.toNatClampNeg) = (((0 : Int64) + (0 : Int64)) + (1 : Int64)) := by
            simp only [own_ti qq ca hqq ha.1, own_ti qq cb hqq hb'.1, own_ti qq cc hqq hc'.1, qhc127, qhc139, qhc157, if_true, if_false]; first | done | rfl | decide
          refine Rch.go (fun _ q => XS.ifNo X122.here hx rfl (hb hby at_185) rfl ((if0 _ _).trans (teq ((lw_eq _ _).mpr hq)).2) q) ?_
          show Rch p ev below _ T122 (mkF m 188 #[.val (.int p1), .val (.int p2), .val (.int p3), .val (.int p4), .val (.int p5), .val (.int ca), .val (.int cb), .val (.int cc), .val (.int (1 : Int32)), .val (.int (p5 &&& (3 : Int32))), .val (.int qq), .val (.ref co), .val (.long ((fun _ => (0 : Int64)) qq.toNatClampNeg)), .second, .val (.long (((0 : Int64) + (0 : Int64)) + (1 : Int64))), .second] [])
          refine Rch.go (fun _ q => XS.iconst X122.here hx rfl (hb hby at_188) q) ?_
          show Rch p ev below _ T122 (mkF m 189 #[.val (.int p1), .val (.int p2), .val (.int p3), .val (.int p4), .val (.int p5), .val (.int ca), .val (.int cb), .val (.int cc), .val (.int (1 : Int32)), .val (.int (p5 &&& (3 : Int32))), .val (.int qq), .val (.ref co), .val (.long ((fun _ => (0 : Int64)) qq.toNatClampNeg)), .second, .val (.long (((0 : Int64) + (0 : Int64)) + (1 : Int64))), .second] [(.int (1 : Int32))])
          refine Rch.go (fun _ q => XS.goto X122.here hx rfl (pc0 := 189) (pc' := 193) rfl (hb hby at_189) (by decide) (by decide) q) ?_
          show Rch p ev below _ T122 (mkF m 193 #[.val (.int p1), .val (.int p2), .val (.int p3), .val (.int p4), .val (.int p5), .val (.int ca), .val (.int cb), .val (.int cc), .val (.int (1 : Int32)), .val (.int (p5 &&& (3 : Int32))), .val (.int qq), .val (.ref co), .val (.long ((fun _ => (0 : Int64)) qq.toNatClampNeg)), .second, .val (.long (((0 : Int64) + (0 : Int64)) + (1 : Int64))), .second] [(.int (1 : Int32))])
          refine Rch.retZ X122 hx hlk Bd.returns (hb hby at_193) (by decide) (by decide) ?_
          unfold Qrm0
          exact ⟨rfl, N122⟩
        · skip
          refine Rch.go (fun _ q => XS.icmpYes X115.here hx rfl (pc0 := 157) (pc' := 164) rfl (hb hby at_157) rfl (feq hc157).2 (by decide) (by decide) q) ?_
          show Rch p ev below _ T115 (mkF m 164 #[.val (.int p1), .val (.int p2), .val (.int p3), .val (.int p4), .val (.int p5), .val (.int ca), .val (.int cb), .val (.int cc), .val (.int (1 : Int32)), .val (.int (p5 &&& (3 : Int32))), .val (.int qq), .val (.ref co), .val (.long ((fun _ => (0 : Int64)) qq.toNatClampNeg)), .second, .unset, .unset] [(.long ((0 : Int64) + (0 : Int64)))])
          refine Rch.go (fun _ q => XS.lconst X115.here hx rfl (hb hby at_164) q) ?_
          show Rch p ev below _ T115 (mkF m 165 #[.val (.int p1), .val (.int p2), .val (.int p3), .val (.int p4), .val (.int p5), .val (.int ca), .val (.int cb), .val (.int cc), .val (.int (1 : Int32)), .val (.int (p5 &&& (3 : Int32))), .val (.int qq), .val (.ref co), .val (.long ((fun _ => (0 : Int64)) qq.toNatClampNeg)), .second, .unset, .unset] [(.long (0 : Int64)), (.long ((0 : Int64) + (0 : Int64)))])
          refine Rch.go (fun _ q => XS.ladd X115.here hx rfl (hb hby at_165) rfl q) ?_
          show Rch p ev below _ T115 (mkF m 166 #[.val (.int p1), .val (.int p2), .val (.int p3), .val (.int p4), .val (.int p5), .val (.int ca), .val (.int cb), .val (.int cc), .val (.int (1 : Int32)), .val (.int (p5 &&& (3 : Int32))), .val (.int qq), .val (.ref co), .val (.long ((fun _ => (0 : Int64)) qq.toNatClampNeg)), .second, .unset, .unset] [(.long (((0 : Int64) + (0 : Int64)) + (0 : Int64)))])
          refine Rch.go (fun _ q => XS.lstore X115.here hx rfl (hb hby at_166) rfl (l' := #[.val (.int p1), .val (.int p2), .val (.int p3), .val (.int p4), .val (.int p5), .val (.int ca), .val (.int cb), .val (.int cc), .val (.int (1 : Int32)), .val (.int (p5 &&& (3 : Int32))), .val (.int qq), .val (.ref co), .val (.long ((fun _ => (0 : Int64)) qq.toNatClampNeg)), .second, .val (.long (((0 : Int64) + (0 : Int64)) + (0 : Int64))), .second]) rfl q) ?_
          show Rch p ev below _ T115 (mkF m 168 #[.val (.int p1), .val (.int p2), .val (.int p3), .val (.int p4), .val (.int p5), .val (.int ca), .val (.int cb), .val (.int cc), .val (.int (1 : Int32)), .val (.int (p5 &&& (3 : Int32))), .val (.int qq), .val (.ref co), .val (.long ((fun _ => (0 : Int64)) qq.toNatClampNeg)), .second, .val (.long (((0 : Int64) + (0 : Int64)) + (0 : Int64))), .second] [])
          refine Rch.go (fun _ q => XS.lload X115.here hx rfl (hb hby at_168) rfl  q) ?_
          show Rch p ev below _ T115 (mkF m 170 #[.val (.int p1), .val (.int p2), .val (.int p3), .val (.int p4), .val (.int p5), .val (.int ca), .val (.int cb), .val (.int cc), .val (.int (1 : Int32)), .val (.int (p5 &&& (3 : Int32))), .val (.int qq), .val (.ref co), .val (.long ((fun _ => (0 : Int64)) qq.toNatClampNeg)), .second, .val (.long (((0 : Int64) + (0 : Int64)) + (0 : Int64))), .second] [(.long ((fun _ => (0 : Int64)) qq.toNatClampNeg))])
          refine Rch.go (fun _ q => XS.lconst X115.here hx rfl (hb hby at_170) q) ?_
          show Rch p ev below _ T115 (mkF m 171 #[.val (.int p1), .val (.int p2), .val (.int p3), .val (.int p4), .val (.int p5), .val (.int ca), .val (.int cb), .val (.int cc), .val (.int (1 : Int32)), .val (.int (p5 &&& (3 : Int32))), .val (.int qq), .val (.ref co), .val (.long ((fun _ => (0 : Int64)) qq.toNatClampNeg)), .second, .val (.long (((0 : Int64) + (0 : Int64)) + (0 : Int64))), .second] [(.long (0 : Int64)), (.long ((fun _ => (0 : Int64)) qq.toNatClampNeg))])
          refine Rch.go (fun _ q => XS.lcmp X115.here hx rfl (hb hby at_171) rfl q) ?_
          show Rch p ev below _ T115 (mkF m 172 #[.val (.int p1), .val (.int p2), .val (.int p3), .val (.int p4), .val (.int p5), .val (.int ca), .val (.int cb), .val (.int cc), .val (.int (1 : Int32)), .val (.int (p5 &&& (3 : Int32))), .val (.int qq), .val (.ref co), .val (.long ((fun _ => (0 : Int64)) qq.toNatClampNeg)), .second, .val (.long (((0 : Int64) + (0 : Int64)) + (0 : Int64))), .second] [(.int (lcmpW ((fun _ => (0 : Int64)) qq.toNatClampNeg) (0 : Int64)))])
          refine Rch.go (fun _ q => XS.ifNo X115.here hx rfl (hb hby at_172) rfl ((if0 _ _).trans (teq ((lw_eq _ _).mpr rfl)).2) q) ?_
          show Rch p ev below _ T115 (mkF m 175 #[.val (.int p1), .val (.int p2), .val (.int p3), .val (.int p4), .val (.int p5), .val (.int ca), .val (.int cb), .val (.int cc), .val (.int (1 : Int32)), .val (.int (p5 &&& (3 : Int32))), .val (.int qq), .val (.ref co), .val (.long ((fun _ => (0 : Int64)) qq.toNatClampNeg)), .second, .val (.long (((0 : Int64) + (0 : Int64)) + (0 : Int64))), .second] [])
          refine Rch.go (fun _ q => XS.aload X115.here hx rfl (hb hby at_175) rfl rfl q) ?_
          show Rch p ev below _ T115 (mkF m 177 #[.val (.int p1), .val (.int p2), .val (.int p3), .val (.int p4), .val (.int p5), .val (.int ca), .val (.int cb), .val (.int cc), .val (.int (1 : Int32)), .val (.int (p5 &&& (3 : Int32))), .val (.int qq), .val (.ref co), .val (.long ((fun _ => (0 : Int64)) qq.toNatClampNeg)), .second, .val (.long (((0 : Int64) + (0 : Int64)) + (0 : Int64))), .second] [(.ref co)])
          refine Rch.go (fun _ q => XS.iload X115.here hx rfl (hb hby at_177) rfl  q) ?_
          show Rch p ev below _ T115 (mkF m 179 #[.val (.int p1), .val (.int p2), .val (.int p3), .val (.int p4), .val (.int p5), .val (.int ca), .val (.int cb), .val (.int cc), .val (.int (1 : Int32)), .val (.int (p5 &&& (3 : Int32))), .val (.int qq), .val (.ref co), .val (.long ((fun _ => (0 : Int64)) qq.toNatClampNeg)), .second, .val (.long (((0 : Int64) + (0 : Int64)) + (0 : Int64))), .second] [(.int qq), (.ref co)])
          obtain ⟨cq123, kq123, q123a, q123b, q123c⟩ := isOf hZ rfl (own_exa Cc115)
          obtain ⟨_, _, ⟨T123, L123, k123, n123⟩, -, X123, ⟨Lc123, hQ123, l123, y123, z123⟩, st123⟩ := X115.virtualBack hx (y := (⟨"com/example/pocket_reasoner/pocketreasoner/tableau/ConceptCounts", "of", "(I)J"⟩ : MethodName)) (z := (⟨"com/example/pocket_reasoner/pocketreasoner/tableau/ConceptCounts", "of", "(I)J"⟩ : MethodName)) hown (mvT hZ (hw _ (List.mem_of_getElem? (i := 12) rfl))) (mvT hZ (hw _ (List.mem_of_getElem? (i := 13) rfl))) (notFace_of_selects (args := #[]) (mvT hZ (hw _ (List.mem_of_getElem? (i := 15) rfl)))) (mvT hZ (hw _ (List.mem_of_getElem? (i := 15) rfl))) (mvT hZ (hw _ (List.mem_of_getElem? (i := 14) rfl))) (by decide) (backOf (W := 0) (rm5 l Z a0 hw [] co qq zc115 (fun i => if i = cc.toNatClampNeg then (fun i => if i = cb.toNatClampNeg then (fun i => if i = ca.toNatClampNeg then (fun _ => (0 : Int64)) i + 1 else (fun _ => (0 : Int64)) i) i + 1 else (fun i => if i = ca.toNatClampNeg then (fun _ => (0 : Int64)) i + 1 else (fun _ => (0 : Int64)) i) i) i + 1 else (fun i => if i = cb.toNatClampNeg then (fun i => if i = ca.toNatClampNeg then (fun _ => (0 : Int64)) i + 1 else (fun _ => (0 : Int64)) i) i + 1 else (fun i => if i = ca.toNatClampNeg then (fun _ => (0 : Int64)) i + 1 else (fun _ => (0 : Int64)) i) i) i) T115.heap n0 Zc115 Cc115 hqq) hZ (hw _ (List.mem_of_getElem? (i := 16) rfl)) (hw _ (List.mem_of_getElem? (i := 2) rfl)) (by decide) (by decide)) q123a q123c (g := (mkF m 179 #[.val (.int p1), .val (.int p2), .val (.int p3), .val (.int p4), .val (.int p5), .val (.int ca), .val (.int cb), .val (.int cc), .val (.int (1 : Int32)), .val (.int (p5 &&& (3 : Int32))), .val (.int qq), .val (.ref co), .val (.long ((fun _ => (0 : Int64)) qq.toNatClampNeg)), .second, .val (.long (((0 : Int64) + (0 : Int64)) + (0 : Int64))), .second] [(.int qq), (.ref co)])) rfl (by rw [hml]; rfl) (Steps.refl _) (argsL := [(.int qq)]) (rest := []) (lenOf own_pd3 rfl) rfl (by show 2 * 0 + _ ≤ _; exact Nat.le_of_eq rfl) (hb hby at_179) (fun _ _ => ⟨rfl, rfl, (by decide : 5 + 0 ≤ _), (by decide : 1595 + 0 ≤ _)⟩)
          dsimp only [Pt.U, Pt.locs, Pt.cells, Pt.slots] at X123 l123 y123 z123 st123 hQ123
          subst l123 y123 z123
          obtain ⟨rfl, Nc, ec⟩ := hQ123
          refine Rch.jump st123 ?_
          show Rch p ev below _ T123 (mkF m 182 #[.val (.int p1), .val (.int p2), .val (.int p3), .val (.int p4), .val (.int p5), .val (.int ca), .val (.int cb), .val (.int cc), .val (.int (1 : Int32)), .val (.int (p5 &&& (3 : Int32))), .val (.int qq), .val (.ref co), .val (.long ((fun _ => (0 : Int64)) qq.toNatClampNeg)), .second, .val (.long (((0 : Int64) + (0 : Int64)) + (0 : Int64))), .second] [(.long ((fun i => if i = cc.toNatClampNeg then (fun i => if i = cb.toNatClampNeg then (fun i => if i = ca.toNatClampNeg then (fun _ => (0 : Int64)) i + 1 else (fun _ => (0 : Int64)) i) i + 1 else (fun i => if i = ca.toNatClampNeg then (fun _ => (0 : Int64)) i + 1 else (fun _ => (0 : Int64)) i) i) i + 1 else (fun i => if i = cb.toNatClampNeg then (fun i => if i = ca.toNatClampNeg then (fun _ => (0 : Int64)) i + 1 else (fun _ => (0 : Int64)) i) i + 1 else (fun i => if i = ca.toNatClampNeg then (fun _ => (0 : Int64)) i + 1 else (fun _ => (0 : Int64)) i) i) i) qq.toNatClampNeg))])
          have N123 := Fr.app N115 Nc
          have e123 := ec
          refine Rch.go (fun _ q => XS.lload X123.here hx rfl (hb hby at_182) rfl  q) ?_
          show Rch p ev below _ T123 (mkF m 184 #[.val (.int p1), .val (.int p2), .val (.int p3), .val (.int p4), .val (.int p5), .val (.int ca), .val (.int cb), .val (.int cc), .val (.int (1 : Int32)), .val (.int (p5 &&& (3 : Int32))), .val (.int qq), .val (.ref co), .val (.long ((fun _ => (0 : Int64)) qq.toNatClampNeg)), .second, .val (.long (((0 : Int64) + (0 : Int64)) + (0 : Int64))), .second] [(.long (((0 : Int64) + (0 : Int64)) + (0 : Int64))), (.long ((fun i => if i = cc.toNatClampNeg then (fun i => if i = cb.toNatClampNeg then (fun i => if i = ca.toNatClampNeg then (fun _ => (0 : Int64)) i + 1 else (fun _ => (0 : Int64)) i) i + 1 else (fun i => if i = ca.toNatClampNeg then (fun _ => (0 : Int64)) i + 1 else (fun _ => (0 : Int64)) i) i) i + 1 else (fun i => if i = cb.toNatClampNeg then (fun i => if i = ca.toNatClampNeg then (fun _ => (0 : Int64)) i + 1 else (fun _ => (0 : Int64)) i) i + 1 else (fun i => if i = ca.toNatClampNeg then (fun _ => (0 : Int64)) i + 1 else (fun _ => (0 : Int64)) i) i) i) qq.toNatClampNeg))])
          refine Rch.go (fun _ q => XS.lcmp X123.here hx rfl (hb hby at_184) rfl q) ?_
          show Rch p ev below _ T123 (mkF m 185 #[.val (.int p1), .val (.int p2), .val (.int p3), .val (.int p4), .val (.int p5), .val (.int ca), .val (.int cb), .val (.int cc), .val (.int (1 : Int32)), .val (.int (p5 &&& (3 : Int32))), .val (.int qq), .val (.ref co), .val (.long ((fun _ => (0 : Int64)) qq.toNatClampNeg)), .second, .val (.long (((0 : Int64) + (0 : Int64)) + (0 : Int64))), .second] [(.int (lcmpW ((fun i => if i = cc.toNatClampNeg then (fun i => if i = cb.toNatClampNeg then (fun i => if i = ca.toNatClampNeg then (fun _ => (0 : Int64)) i + 1 else (fun _ => (0 : Int64)) i) i + 1 else (fun i => if i = ca.toNatClampNeg then (fun _ => (0 : Int64)) i + 1 else (fun _ => (0 : Int64)) i) i) i + 1 else (fun i => if i = cb.toNatClampNeg then (fun i => if i = ca.toNatClampNeg then (fun _ => (0 : Int64)) i + 1 else (fun _ => (0 : Int64)) i) i + 1 else (fun i => if i = ca.toNatClampNeg then (fun _ => (0 : Int64)) i + 1 else (fun _ => (0 : Int64)) i) i) i) qq.toNatClampNeg) (((0 : Int64) + (0 : Int64)) + (0 : Int64))))])
          have qhc127 := eq_false hc127
          have qhc139 := eq_false hc139
          have qhc157 := eq_false hc157
          have hq : ((fun i => if i = cc.toNatClampNeg then (fun i => if i = cb.toNatClampNeg then (fun i => if i = ca.toNatClampNeg then (fun _ => (0 : Int64)) i + 1 else (fun _ => (0 : Int64)) i) i + 1 else (fun i => if i = ca.toNatClampNeg then (fun _ => (0 : Int64)) i + 1 else (fun _ => (0 : Int64)) i) i) i + 1 else (fun i => if i = cb.toNatClampNeg then (fun i => if i = ca.toNatClampNeg then (fun _ => (0 : Int64)) i + 1 else (fun _ => (0 : Int64)) i) i + 1 else (fun i => if i = ca.toNatClampNeg then (fun _ => (0 : Int64)) i + 1 else (fun _ => (0 : Int64)) i) i) i) qq.toNatClampNeg) = (((0 : Int64) + (0 : Int64)) + (0 : Int64)) := by
            simp only [own_ti qq ca hqq ha.1, own_ti qq cb hqq hb'.1, own_ti qq cc hqq hc'.1, qhc127, qhc139, qhc157, if_true, if_false]; first | done | rfl | decide
          refine Rch.go (fun _ q => XS.ifNo X123.here hx rfl (hb hby at_185) rfl ((if0 _ _).trans (teq ((lw_eq _ _).mpr hq)).2) q) ?_
          show Rch p ev below _ T123 (mkF m 188 #[.val (.int p1), .val (.int p2), .val (.int p3), .val (.int p4), .val (.int p5), .val (.int ca), .val (.int cb), .val (.int cc), .val (.int (1 : Int32)), .val (.int (p5 &&& (3 : Int32))), .val (.int qq), .val (.ref co), .val (.long ((fun _ => (0 : Int64)) qq.toNatClampNeg)), .second, .val (.long (((0 : Int64) + (0 : Int64)) + (0 : Int64))), .second] [])
          refine Rch.go (fun _ q => XS.iconst X123.here hx rfl (hb hby at_188) q) ?_
          show Rch p ev below _ T123 (mkF m 189 #[.val (.int p1), .val (.int p2), .val (.int p3), .val (.int p4), .val (.int p5), .val (.int ca), .val (.int cb), .val (.int cc), .val (.int (1 : Int32)), .val (.int (p5 &&& (3 : Int32))), .val (.int qq), .val (.ref co), .val (.long ((fun _ => (0 : Int64)) qq.toNatClampNeg)), .second, .val (.long (((0 : Int64) + (0 : Int64)) + (0 : Int64))), .second] [(.int (1 : Int32))])
          refine Rch.go (fun _ q => XS.goto X123.here hx rfl (pc0 := 189) (pc' := 193) rfl (hb hby at_189) (by decide) (by decide) q) ?_
          show Rch p ev below _ T123 (mkF m 193 #[.val (.int p1), .val (.int p2), .val (.int p3), .val (.int p4), .val (.int p5), .val (.int ca), .val (.int cb), .val (.int cc), .val (.int (1 : Int32)), .val (.int (p5 &&& (3 : Int32))), .val (.int qq), .val (.ref co), .val (.long ((fun _ => (0 : Int64)) qq.toNatClampNeg)), .second, .val (.long (((0 : Int64) + (0 : Int64)) + (0 : Int64))), .second] [(.int (1 : Int32))])
          refine Rch.retZ X123 hx hlk Bd.returns (hb hby at_193) (by decide) (by decide) ?_
          unfold Qrm0
          exact ⟨rfl, N123⟩
  refine Rch.go (fun _ q => XS.iloadN X0.here hx rfl (hb hby at_0) rfl  q) ?_
  show Rch p ev below _ s₁ (mkF m 1 #[.val (.int p1), .val (.int p2), .val (.int p3), .val (.int p4), .val (.int p5), .unset, .unset, .unset, .unset, .unset, .unset, .unset, .unset, .unset, .unset, .unset] [(.int p1)])
  refine Rch.go (fun _ q => XS.sipush X0.here hx rfl (hb hby at_1) q) ?_
  show Rch p ev below _ s₁ (mkF m 4 #[.val (.int p1), .val (.int p2), .val (.int p3), .val (.int p4), .val (.int p5), .unset, .unset, .unset, .unset, .unset, .unset, .unset, .unset, .unset, .unset, .unset] [(.int (255 : Int32)), (.int p1)])
  refine Rch.go (fun _ q => XS.iand X0.here hx rfl (hb hby at_4) rfl q) ?_
  show Rch p ev below _ s₁ (mkF m 5 #[.val (.int p1), .val (.int p2), .val (.int p3), .val (.int p4), .val (.int p5), .unset, .unset, .unset, .unset, .unset, .unset, .unset, .unset, .unset, .unset, .unset] [(.int (p1 &&& (255 : Int32)))])
  refine Rch.go (fun _ q => XS.istore X0.here hx rfl (hb hby at_5) rfl (l' := #[.val (.int p1), .val (.int p2), .val (.int p3), .val (.int p4), .val (.int p5), .val (.int (p1 &&& (255 : Int32))), .unset, .unset, .unset, .unset, .unset, .unset, .unset, .unset, .unset, .unset]) rfl q) ?_
  show Rch p ev below _ s₁ (mkF m 7 #[.val (.int p1), .val (.int p2), .val (.int p3), .val (.int p4), .val (.int p5), .val (.int (p1 &&& (255 : Int32))), .unset, .unset, .unset, .unset, .unset, .unset, .unset, .unset, .unset, .unset] [])
  rw [← g_ca]
  show Rch p ev below _ s₁ (mkF m 7 #[.val (.int p1), .val (.int p2), .val (.int p3), .val (.int p4), .val (.int p5), .val (.int ca), .unset, .unset, .unset, .unset, .unset, .unset, .unset, .unset, .unset, .unset] [])
  refine Rch.go (fun _ q => XS.iloadN X0.here hx rfl (hb hby at_7) rfl  q) ?_
  show Rch p ev below _ s₁ (mkF m 8 #[.val (.int p1), .val (.int p2), .val (.int p3), .val (.int p4), .val (.int p5), .val (.int ca), .unset, .unset, .unset, .unset, .unset, .unset, .unset, .unset, .unset, .unset] [(.int p2)])
  refine Rch.go (fun _ q => XS.sipush X0.here hx rfl (hb hby at_8) q) ?_
  show Rch p ev below _ s₁ (mkF m 11 #[.val (.int p1), .val (.int p2), .val (.int p3), .val (.int p4), .val (.int p5), .val (.int ca), .unset, .unset, .unset, .unset, .unset, .unset, .unset, .unset, .unset, .unset] [(.int (255 : Int32)), (.int p2)])
  refine Rch.go (fun _ q => XS.iand X0.here hx rfl (hb hby at_11) rfl q) ?_
  show Rch p ev below _ s₁ (mkF m 12 #[.val (.int p1), .val (.int p2), .val (.int p3), .val (.int p4), .val (.int p5), .val (.int ca), .unset, .unset, .unset, .unset, .unset, .unset, .unset, .unset, .unset, .unset] [(.int (p2 &&& (255 : Int32)))])
  refine Rch.go (fun _ q => XS.istore X0.here hx rfl (hb hby at_12) rfl (l' := #[.val (.int p1), .val (.int p2), .val (.int p3), .val (.int p4), .val (.int p5), .val (.int ca), .val (.int (p2 &&& (255 : Int32))), .unset, .unset, .unset, .unset, .unset, .unset, .unset, .unset, .unset]) rfl q) ?_
  show Rch p ev below _ s₁ (mkF m 14 #[.val (.int p1), .val (.int p2), .val (.int p3), .val (.int p4), .val (.int p5), .val (.int ca), .val (.int (p2 &&& (255 : Int32))), .unset, .unset, .unset, .unset, .unset, .unset, .unset, .unset, .unset] [])
  rw [← g_cb]
  show Rch p ev below _ s₁ (mkF m 14 #[.val (.int p1), .val (.int p2), .val (.int p3), .val (.int p4), .val (.int p5), .val (.int ca), .val (.int cb), .unset, .unset, .unset, .unset, .unset, .unset, .unset, .unset, .unset] [])
  refine Rch.go (fun _ q => XS.iloadN X0.here hx rfl (hb hby at_14) rfl  q) ?_
  show Rch p ev below _ s₁ (mkF m 15 #[.val (.int p1), .val (.int p2), .val (.int p3), .val (.int p4), .val (.int p5), .val (.int ca), .val (.int cb), .unset, .unset, .unset, .unset, .unset, .unset, .unset, .unset, .unset] [(.int p3)])
  refine Rch.go (fun _ q => XS.sipush X0.here hx rfl (hb hby at_15) q) ?_
  show Rch p ev below _ s₁ (mkF m 18 #[.val (.int p1), .val (.int p2), .val (.int p3), .val (.int p4), .val (.int p5), .val (.int ca), .val (.int cb), .unset, .unset, .unset, .unset, .unset, .unset, .unset, .unset, .unset] [(.int (255 : Int32)), (.int p3)])
  refine Rch.go (fun _ q => XS.iand X0.here hx rfl (hb hby at_18) rfl q) ?_
  show Rch p ev below _ s₁ (mkF m 19 #[.val (.int p1), .val (.int p2), .val (.int p3), .val (.int p4), .val (.int p5), .val (.int ca), .val (.int cb), .unset, .unset, .unset, .unset, .unset, .unset, .unset, .unset, .unset] [(.int (p3 &&& (255 : Int32)))])
  refine Rch.go (fun _ q => XS.istore X0.here hx rfl (hb hby at_19) rfl (l' := #[.val (.int p1), .val (.int p2), .val (.int p3), .val (.int p4), .val (.int p5), .val (.int ca), .val (.int cb), .val (.int (p3 &&& (255 : Int32))), .unset, .unset, .unset, .unset, .unset, .unset, .unset, .unset]) rfl q) ?_
  show Rch p ev below _ s₁ (mkF m 21 #[.val (.int p1), .val (.int p2), .val (.int p3), .val (.int p4), .val (.int p5), .val (.int ca), .val (.int cb), .val (.int (p3 &&& (255 : Int32))), .unset, .unset, .unset, .unset, .unset, .unset, .unset, .unset] [])
  rw [← g_cc]
  show Rch p ev below _ s₁ (mkF m 21 #[.val (.int p1), .val (.int p2), .val (.int p3), .val (.int p4), .val (.int p5), .val (.int ca), .val (.int cb), .val (.int cc), .unset, .unset, .unset, .unset, .unset, .unset, .unset, .unset] [])
  refine Rch.go (fun _ q => XS.iload X0.here hx rfl (hb hby at_21) rfl  q) ?_
  show Rch p ev below _ s₁ (mkF m 23 #[.val (.int p1), .val (.int p2), .val (.int p3), .val (.int p4), .val (.int p5), .val (.int ca), .val (.int cb), .val (.int cc), .unset, .unset, .unset, .unset, .unset, .unset, .unset, .unset] [(.int p5)])
  refine Rch.go (fun _ q => XS.iconst X0.here hx rfl (hb hby at_23) q) ?_
  show Rch p ev below _ s₁ (mkF m 24 #[.val (.int p1), .val (.int p2), .val (.int p3), .val (.int p4), .val (.int p5), .val (.int ca), .val (.int cb), .val (.int cc), .unset, .unset, .unset, .unset, .unset, .unset, .unset, .unset] [(.int (4 : Int32)), (.int p5)])
  refine Rch.go (fun _ q => XS.iand X0.here hx rfl (hb hby at_24) rfl q) ?_
  show Rch p ev below _ s₁ (mkF m 25 #[.val (.int p1), .val (.int p2), .val (.int p3), .val (.int p4), .val (.int p5), .val (.int ca), .val (.int cb), .val (.int cc), .unset, .unset, .unset, .unset, .unset, .unset, .unset, .unset] [(.int (p5 &&& (4 : Int32)))])
  by_cases hc25 : (p5 &&& (4 : Int32)) = (0 : Int32)
  · skip
    refine Rch.go (fun _ q => XS.ifYes X0.here hx rfl (pc0 := 25) (pc' := 32) rfl (hb hby at_25) rfl ((if0 _ _).trans (teq hc25).1) (by decide) (by decide) q) ?_
    show Rch p ev below _ s₁ (mkF m 32 #[.val (.int p1), .val (.int p2), .val (.int p3), .val (.int p4), .val (.int p5), .val (.int ca), .val (.int cb), .val (.int cc), .unset, .unset, .unset, .unset, .unset, .unset, .unset, .unset] [])
    refine Rch.go (fun _ q => XS.iconst X0.here hx rfl (hb hby at_32) q) ?_
    show Rch p ev below _ s₁ (mkF m 33 #[.val (.int p1), .val (.int p2), .val (.int p3), .val (.int p4), .val (.int p5), .val (.int ca), .val (.int cb), .val (.int cc), .unset, .unset, .unset, .unset, .unset, .unset, .unset, .unset] [(.int (0 : Int32))])
    refine Rch.go (fun _ q => XS.istore X0.here hx rfl (hb hby at_33) rfl (l' := #[.val (.int p1), .val (.int p2), .val (.int p3), .val (.int p4), .val (.int p5), .val (.int ca), .val (.int cb), .val (.int cc), .val (.int (0 : Int32)), .unset, .unset, .unset, .unset, .unset, .unset, .unset]) rfl q) ?_
    show Rch p ev below _ s₁ (mkF m 35 #[.val (.int p1), .val (.int p2), .val (.int p3), .val (.int p4), .val (.int p5), .val (.int ca), .val (.int cb), .val (.int cc), .val (.int (0 : Int32)), .unset, .unset, .unset, .unset, .unset, .unset, .unset] [])
    refine Rch.go (fun _ q => XS.iload X0.here hx rfl (hb hby at_35) rfl  q) ?_
    show Rch p ev below _ s₁ (mkF m 37 #[.val (.int p1), .val (.int p2), .val (.int p3), .val (.int p4), .val (.int p5), .val (.int ca), .val (.int cb), .val (.int cc), .val (.int (0 : Int32)), .unset, .unset, .unset, .unset, .unset, .unset, .unset] [(.int p5)])
    refine Rch.go (fun _ q => XS.iconst X0.here hx rfl (hb hby at_37) q) ?_
    show Rch p ev below _ s₁ (mkF m 38 #[.val (.int p1), .val (.int p2), .val (.int p3), .val (.int p4), .val (.int p5), .val (.int ca), .val (.int cb), .val (.int cc), .val (.int (0 : Int32)), .unset, .unset, .unset, .unset, .unset, .unset, .unset] [(.int (3 : Int32)), (.int p5)])
    refine Rch.go (fun _ q => XS.iand X0.here hx rfl (hb hby at_38) rfl q) ?_
    show Rch p ev below _ s₁ (mkF m 39 #[.val (.int p1), .val (.int p2), .val (.int p3), .val (.int p4), .val (.int p5), .val (.int ca), .val (.int cb), .val (.int cc), .val (.int (0 : Int32)), .unset, .unset, .unset, .unset, .unset, .unset, .unset] [(.int (p5 &&& (3 : Int32)))])
    refine Rch.go (fun _ q => XS.istore X0.here hx rfl (hb hby at_39) rfl (l' := #[.val (.int p1), .val (.int p2), .val (.int p3), .val (.int p4), .val (.int p5), .val (.int ca), .val (.int cb), .val (.int cc), .val (.int (0 : Int32)), .val (.int (p5 &&& (3 : Int32))), .unset, .unset, .unset, .unset, .unset, .unset]) rfl q) ?_
    show Rch p ev below _ s₁ (mkF m 41 #[.val (.int p1), .val (.int p2), .val (.int p3), .val (.int p4), .val (.int p5), .val (.int ca), .val (.int cb), .val (.int cc), .val (.int (0 : Int32)), .val (.int (p5 &&& (3 : Int32))), .unset, .unset, .unset, .unset, .unset, .unset] [])
    refine Rch.go (fun _ q => XS.iload X0.here hx rfl (hb hby at_41) rfl  q) ?_
    show Rch p ev below _ s₁ (mkF m 43 #[.val (.int p1), .val (.int p2), .val (.int p3), .val (.int p4), .val (.int p5), .val (.int ca), .val (.int cb), .val (.int cc), .val (.int (0 : Int32)), .val (.int (p5 &&& (3 : Int32))), .unset, .unset, .unset, .unset, .unset, .unset] [(.int (p5 &&& (3 : Int32)))])
    by_cases hc43 : (p5 &&& (3 : Int32)) = (0 : Int32)
    · skip
      refine Rch.go (fun _ q => XS.ifNo X0.here hx rfl (hb hby at_43) rfl ((if0 _ _).trans (teq hc43).2) q) ?_
      show Rch p ev below _ s₁ (mkF m 46 #[.val (.int p1), .val (.int p2), .val (.int p3), .val (.int p4), .val (.int p5), .val (.int ca), .val (.int cb), .val (.int cc), .val (.int (0 : Int32)), .val (.int (p5 &&& (3 : Int32))), .unset, .unset, .unset, .unset, .unset, .unset] [])
      refine Rch.go (fun _ q => XS.iload X0.here hx rfl (hb hby at_46) rfl  q) ?_
      show Rch p ev below _ s₁ (mkF m 48 #[.val (.int p1), .val (.int p2), .val (.int p3), .val (.int p4), .val (.int p5), .val (.int ca), .val (.int cb), .val (.int cc), .val (.int (0 : Int32)), .val (.int (p5 &&& (3 : Int32))), .unset, .unset, .unset, .unset, .unset, .unset] [(.int ca)])
      refine Rch.go (fun _ q => XS.goto X0.here hx rfl (pc0 := 48) (pc' := 77) rfl (hb hby at_48) (by decide) (by decide) q) ?_
      show Rch p ev below _ s₁ (mkF m 77 #[.val (.int p1), .val (.int p2), .val (.int p3), .val (.int p4), .val (.int p5), .val (.int ca), .val (.int cb), .val (.int cc), .val (.int (0 : Int32)), .val (.int (p5 &&& (3 : Int32))), .unset, .unset, .unset, .unset, .unset, .unset] [(.int ca)])
      refine Rch.go (fun _ q => XS.istore X0.here hx rfl (hb hby at_77) rfl (l' := #[.val (.int p1), .val (.int p2), .val (.int p3), .val (.int p4), .val (.int p5), .val (.int ca), .val (.int cb), .val (.int cc), .val (.int (0 : Int32)), .val (.int (p5 &&& (3 : Int32))), .val (.int ca), .unset, .unset, .unset, .unset, .unset]) rfl q) ?_
      show Rch p ev below _ s₁ (mkF m 79 #[.val (.int p1), .val (.int p2), .val (.int p3), .val (.int p4), .val (.int p5), .val (.int ca), .val (.int cb), .val (.int cc), .val (.int (0 : Int32)), .val (.int (p5 &&& (3 : Int32))), .val (.int ca), .unset, .unset, .unset, .unset, .unset] [])
      exact tail0 ca ha.1
    · skip
      refine Rch.go (fun _ q => XS.ifYes X0.here hx rfl (pc0 := 43) (pc' := 51) rfl (hb hby at_43) rfl ((if0 _ _).trans (feq hc43).2) (by decide) (by decide) q) ?_
      show Rch p ev below _ s₁ (mkF m 51 #[.val (.int p1), .val (.int p2), .val (.int p3), .val (.int p4), .val (.int p5), .val (.int ca), .val (.int cb), .val (.int cc), .val (.int (0 : Int32)), .val (.int (p5 &&& (3 : Int32))), .unset, .unset, .unset, .unset, .unset, .unset] [])
      refine Rch.go (fun _ q => XS.iload X0.here hx rfl (hb hby at_51) rfl  q) ?_
      show Rch p ev below _ s₁ (mkF m 53 #[.val (.int p1), .val (.int p2), .val (.int p3), .val (.int p4), .val (.int p5), .val (.int ca), .val (.int cb), .val (.int cc), .val (.int (0 : Int32)), .val (.int (p5 &&& (3 : Int32))), .unset, .unset, .unset, .unset, .unset, .unset] [(.int (p5 &&& (3 : Int32)))])
      refine Rch.go (fun _ q => XS.iconst X0.here hx rfl (hb hby at_53) q) ?_
      show Rch p ev below _ s₁ (mkF m 54 #[.val (.int p1), .val (.int p2), .val (.int p3), .val (.int p4), .val (.int p5), .val (.int ca), .val (.int cb), .val (.int cc), .val (.int (0 : Int32)), .val (.int (p5 &&& (3 : Int32))), .unset, .unset, .unset, .unset, .unset, .unset] [(.int (1 : Int32)), (.int (p5 &&& (3 : Int32)))])
      by_cases hc54 : (p5 &&& (3 : Int32)) = (1 : Int32)
      · skip
        refine Rch.go (fun _ q => XS.icmpNo X0.here hx rfl (hb hby at_54) rfl (teq hc54).2 q) ?_
        show Rch p ev below _ s₁ (mkF m 57 #[.val (.int p1), .val (.int p2), .val (.int p3), .val (.int p4), .val (.int p5), .val (.int ca), .val (.int cb), .val (.int cc), .val (.int (0 : Int32)), .val (.int (p5 &&& (3 : Int32))), .unset, .unset, .unset, .unset, .unset, .unset] [])
        refine Rch.go (fun _ q => XS.iload X0.here hx rfl (hb hby at_57) rfl  q) ?_
        show Rch p ev below _ s₁ (mkF m 59 #[.val (.int p1), .val (.int p2), .val (.int p3), .val (.int p4), .val (.int p5), .val (.int ca), .val (.int cb), .val (.int cc), .val (.int (0 : Int32)), .val (.int (p5 &&& (3 : Int32))), .unset, .unset, .unset, .unset, .unset, .unset] [(.int cb)])
        refine Rch.go (fun _ q => XS.goto X0.here hx rfl (pc0 := 59) (pc' := 77) rfl (hb hby at_59) (by decide) (by decide) q) ?_
        show Rch p ev below _ s₁ (mkF m 77 #[.val (.int p1), .val (.int p2), .val (.int p3), .val (.int p4), .val (.int p5), .val (.int ca), .val (.int cb), .val (.int cc), .val (.int (0 : Int32)), .val (.int (p5 &&& (3 : Int32))), .unset, .unset, .unset, .unset, .unset, .unset] [(.int cb)])
        refine Rch.go (fun _ q => XS.istore X0.here hx rfl (hb hby at_77) rfl (l' := #[.val (.int p1), .val (.int p2), .val (.int p3), .val (.int p4), .val (.int p5), .val (.int ca), .val (.int cb), .val (.int cc), .val (.int (0 : Int32)), .val (.int (p5 &&& (3 : Int32))), .val (.int cb), .unset, .unset, .unset, .unset, .unset]) rfl q) ?_
        show Rch p ev below _ s₁ (mkF m 79 #[.val (.int p1), .val (.int p2), .val (.int p3), .val (.int p4), .val (.int p5), .val (.int ca), .val (.int cb), .val (.int cc), .val (.int (0 : Int32)), .val (.int (p5 &&& (3 : Int32))), .val (.int cb), .unset, .unset, .unset, .unset, .unset] [])
        exact tail0 cb hb'.1
      · skip
        refine Rch.go (fun _ q => XS.icmpYes X0.here hx rfl (pc0 := 54) (pc' := 62) rfl (hb hby at_54) rfl (feq hc54).2 (by decide) (by decide) q) ?_
        show Rch p ev below _ s₁ (mkF m 62 #[.val (.int p1), .val (.int p2), .val (.int p3), .val (.int p4), .val (.int p5), .val (.int ca), .val (.int cb), .val (.int cc), .val (.int (0 : Int32)), .val (.int (p5 &&& (3 : Int32))), .unset, .unset, .unset, .unset, .unset, .unset] [])
        refine Rch.go (fun _ q => XS.iload X0.here hx rfl (hb hby at_62) rfl  q) ?_
        show Rch p ev below _ s₁ (mkF m 64 #[.val (.int p1), .val (.int p2), .val (.int p3), .val (.int p4), .val (.int p5), .val (.int ca), .val (.int cb), .val (.int cc), .val (.int (0 : Int32)), .val (.int (p5 &&& (3 : Int32))), .unset, .unset, .unset, .unset, .unset, .unset] [(.int (p5 &&& (3 : Int32)))])
        refine Rch.go (fun _ q => XS.iconst X0.here hx rfl (hb hby at_64) q) ?_
        show Rch p ev below _ s₁ (mkF m 65 #[.val (.int p1), .val (.int p2), .val (.int p3), .val (.int p4), .val (.int p5), .val (.int ca), .val (.int cb), .val (.int cc), .val (.int (0 : Int32)), .val (.int (p5 &&& (3 : Int32))), .unset, .unset, .unset, .unset, .unset, .unset] [(.int (2 : Int32)), (.int (p5 &&& (3 : Int32)))])
        by_cases hc65 : (p5 &&& (3 : Int32)) = (2 : Int32)
        · skip
          refine Rch.go (fun _ q => XS.icmpNo X0.here hx rfl (hb hby at_65) rfl (teq hc65).2 q) ?_
          show Rch p ev below _ s₁ (mkF m 68 #[.val (.int p1), .val (.int p2), .val (.int p3), .val (.int p4), .val (.int p5), .val (.int ca), .val (.int cb), .val (.int cc), .val (.int (0 : Int32)), .val (.int (p5 &&& (3 : Int32))), .unset, .unset, .unset, .unset, .unset, .unset] [])
          refine Rch.go (fun _ q => XS.iload X0.here hx rfl (hb hby at_68) rfl  q) ?_
          show Rch p ev below _ s₁ (mkF m 70 #[.val (.int p1), .val (.int p2), .val (.int p3), .val (.int p4), .val (.int p5), .val (.int ca), .val (.int cb), .val (.int cc), .val (.int (0 : Int32)), .val (.int (p5 &&& (3 : Int32))), .unset, .unset, .unset, .unset, .unset, .unset] [(.int cc)])
          refine Rch.go (fun _ q => XS.goto X0.here hx rfl (pc0 := 70) (pc' := 77) rfl (hb hby at_70) (by decide) (by decide) q) ?_
          show Rch p ev below _ s₁ (mkF m 77 #[.val (.int p1), .val (.int p2), .val (.int p3), .val (.int p4), .val (.int p5), .val (.int ca), .val (.int cb), .val (.int cc), .val (.int (0 : Int32)), .val (.int (p5 &&& (3 : Int32))), .unset, .unset, .unset, .unset, .unset, .unset] [(.int cc)])
          refine Rch.go (fun _ q => XS.istore X0.here hx rfl (hb hby at_77) rfl (l' := #[.val (.int p1), .val (.int p2), .val (.int p3), .val (.int p4), .val (.int p5), .val (.int ca), .val (.int cb), .val (.int cc), .val (.int (0 : Int32)), .val (.int (p5 &&& (3 : Int32))), .val (.int cc), .unset, .unset, .unset, .unset, .unset]) rfl q) ?_
          show Rch p ev below _ s₁ (mkF m 79 #[.val (.int p1), .val (.int p2), .val (.int p3), .val (.int p4), .val (.int p5), .val (.int ca), .val (.int cb), .val (.int cc), .val (.int (0 : Int32)), .val (.int (p5 &&& (3 : Int32))), .val (.int cc), .unset, .unset, .unset, .unset, .unset] [])
          exact tail0 cc hc'.1
        · skip
          refine Rch.go (fun _ q => XS.icmpYes X0.here hx rfl (pc0 := 65) (pc' := 73) rfl (hb hby at_65) rfl (feq hc65).2 (by decide) (by decide) q) ?_
          show Rch p ev below _ s₁ (mkF m 73 #[.val (.int p1), .val (.int p2), .val (.int p3), .val (.int p4), .val (.int p5), .val (.int ca), .val (.int cb), .val (.int cc), .val (.int (0 : Int32)), .val (.int (p5 &&& (3 : Int32))), .unset, .unset, .unset, .unset, .unset, .unset] [])
          refine Rch.go (fun _ q => XS.iloadN X0.here hx rfl (hb hby at_73) rfl  q) ?_
          show Rch p ev below _ s₁ (mkF m 74 #[.val (.int p1), .val (.int p2), .val (.int p3), .val (.int p4), .val (.int p5), .val (.int ca), .val (.int cb), .val (.int cc), .val (.int (0 : Int32)), .val (.int (p5 &&& (3 : Int32))), .unset, .unset, .unset, .unset, .unset, .unset] [(.int p4)])
          refine Rch.go (fun _ q => X0.ldcI hx (own := "com/example/pocket_reasoner/pocketreasoner/tableau/ConceptCountsOfPinLaw") hown (mvT hZ (hw _ (List.mem_of_getElem? (i := 22) rfl))) rfl (hb hby at_74) q) ?_
          show Rch p ev below _ s₁ (mkF m 76 #[.val (.int p1), .val (.int p2), .val (.int p3), .val (.int p4), .val (.int p5), .val (.int ca), .val (.int cb), .val (.int cc), .val (.int (0 : Int32)), .val (.int (p5 &&& (3 : Int32))), .unset, .unset, .unset, .unset, .unset, .unset] [(.int (2147483647 : Int32)), (.int p4)])
          refine Rch.go (fun _ q => XS.iand X0.here hx rfl (hb hby at_76) rfl q) ?_
          show Rch p ev below _ s₁ (mkF m 77 #[.val (.int p1), .val (.int p2), .val (.int p3), .val (.int p4), .val (.int p5), .val (.int ca), .val (.int cb), .val (.int cc), .val (.int (0 : Int32)), .val (.int (p5 &&& (3 : Int32))), .unset, .unset, .unset, .unset, .unset, .unset] [(.int (p4 &&& (2147483647 : Int32)))])
          refine Rch.go (fun _ q => XS.istore X0.here hx rfl (hb hby at_77) rfl (l' := #[.val (.int p1), .val (.int p2), .val (.int p3), .val (.int p4), .val (.int p5), .val (.int ca), .val (.int cb), .val (.int cc), .val (.int (0 : Int32)), .val (.int (p5 &&& (3 : Int32))), .val (.int (p4 &&& (2147483647 : Int32))), .unset, .unset, .unset, .unset, .unset]) rfl q) ?_
          show Rch p ev below _ s₁ (mkF m 79 #[.val (.int p1), .val (.int p2), .val (.int p3), .val (.int p4), .val (.int p5), .val (.int ca), .val (.int cb), .val (.int cc), .val (.int (0 : Int32)), .val (.int (p5 &&& (3 : Int32))), .val (.int (p4 &&& (2147483647 : Int32))), .unset, .unset, .unset, .unset, .unset] [])
          exact tail0 (p4 &&& (2147483647 : Int32)) hd'.1
  · skip
    refine Rch.go (fun _ q => XS.ifNo X0.here hx rfl (hb hby at_25) rfl ((if0 _ _).trans (feq hc25).1) q) ?_
    show Rch p ev below _ s₁ (mkF m 28 #[.val (.int p1), .val (.int p2), .val (.int p3), .val (.int p4), .val (.int p5), .val (.int ca), .val (.int cb), .val (.int cc), .unset, .unset, .unset, .unset, .unset, .unset, .unset, .unset] [])
    refine Rch.go (fun _ q => XS.iconst X0.here hx rfl (hb hby at_28) q) ?_
    show Rch p ev below _ s₁ (mkF m 29 #[.val (.int p1), .val (.int p2), .val (.int p3), .val (.int p4), .val (.int p5), .val (.int ca), .val (.int cb), .val (.int cc), .unset, .unset, .unset, .unset, .unset, .unset, .unset, .unset] [(.int (1 : Int32))])
    refine Rch.go (fun _ q => XS.goto X0.here hx rfl (pc0 := 29) (pc' := 33) rfl (hb hby at_29) (by decide) (by decide) q) ?_
    show Rch p ev below _ s₁ (mkF m 33 #[.val (.int p1), .val (.int p2), .val (.int p3), .val (.int p4), .val (.int p5), .val (.int ca), .val (.int cb), .val (.int cc), .unset, .unset, .unset, .unset, .unset, .unset, .unset, .unset] [(.int (1 : Int32))])
    refine Rch.go (fun _ q => XS.istore X0.here hx rfl (hb hby at_33) rfl (l' := #[.val (.int p1), .val (.int p2), .val (.int p3), .val (.int p4), .val (.int p5), .val (.int ca), .val (.int cb), .val (.int cc), .val (.int (1 : Int32)), .unset, .unset, .unset, .unset, .unset, .unset, .unset]) rfl q) ?_
    show Rch p ev below _ s₁ (mkF m 35 #[.val (.int p1), .val (.int p2), .val (.int p3), .val (.int p4), .val (.int p5), .val (.int ca), .val (.int cb), .val (.int cc), .val (.int (1 : Int32)), .unset, .unset, .unset, .unset, .unset, .unset, .unset] [])
    refine Rch.go (fun _ q => XS.iload X0.here hx rfl (hb hby at_35) rfl  q) ?_
    show Rch p ev below _ s₁ (mkF m 37 #[.val (.int p1), .val (.int p2), .val (.int p3), .val (.int p4), .val (.int p5), .val (.int ca), .val (.int cb), .val (.int cc), .val (.int (1 : Int32)), .unset, .unset, .unset, .unset, .unset, .unset, .unset] [(.int p5)])
    refine Rch.go (fun _ q => XS.iconst X0.here hx rfl (hb hby at_37) q) ?_
    show Rch p ev below _ s₁ (mkF m 38 #[.val (.int p1), .val (.int p2), .val (.int p3), .val (.int p4), .val (.int p5), .val (.int ca), .val (.int cb), .val (.int cc), .val (.int (1 : Int32)), .unset, .unset, .unset, .unset, .unset, .unset, .unset] [(.int (3 : Int32)), (.int p5)])
    refine Rch.go (fun _ q => XS.iand X0.here hx rfl (hb hby at_38) rfl q) ?_
    show Rch p ev below _ s₁ (mkF m 39 #[.val (.int p1), .val (.int p2), .val (.int p3), .val (.int p4), .val (.int p5), .val (.int ca), .val (.int cb), .val (.int cc), .val (.int (1 : Int32)), .unset, .unset, .unset, .unset, .unset, .unset, .unset] [(.int (p5 &&& (3 : Int32)))])
    refine Rch.go (fun _ q => XS.istore X0.here hx rfl (hb hby at_39) rfl (l' := #[.val (.int p1), .val (.int p2), .val (.int p3), .val (.int p4), .val (.int p5), .val (.int ca), .val (.int cb), .val (.int cc), .val (.int (1 : Int32)), .val (.int (p5 &&& (3 : Int32))), .unset, .unset, .unset, .unset, .unset, .unset]) rfl q) ?_
    show Rch p ev below _ s₁ (mkF m 41 #[.val (.int p1), .val (.int p2), .val (.int p3), .val (.int p4), .val (.int p5), .val (.int ca), .val (.int cb), .val (.int cc), .val (.int (1 : Int32)), .val (.int (p5 &&& (3 : Int32))), .unset, .unset, .unset, .unset, .unset, .unset] [])
    refine Rch.go (fun _ q => XS.iload X0.here hx rfl (hb hby at_41) rfl  q) ?_
    show Rch p ev below _ s₁ (mkF m 43 #[.val (.int p1), .val (.int p2), .val (.int p3), .val (.int p4), .val (.int p5), .val (.int ca), .val (.int cb), .val (.int cc), .val (.int (1 : Int32)), .val (.int (p5 &&& (3 : Int32))), .unset, .unset, .unset, .unset, .unset, .unset] [(.int (p5 &&& (3 : Int32)))])
    by_cases hc43 : (p5 &&& (3 : Int32)) = (0 : Int32)
    · skip
      refine Rch.go (fun _ q => XS.ifNo X0.here hx rfl (hb hby at_43) rfl ((if0 _ _).trans (teq hc43).2) q) ?_
      show Rch p ev below _ s₁ (mkF m 46 #[.val (.int p1), .val (.int p2), .val (.int p3), .val (.int p4), .val (.int p5), .val (.int ca), .val (.int cb), .val (.int cc), .val (.int (1 : Int32)), .val (.int (p5 &&& (3 : Int32))), .unset, .unset, .unset, .unset, .unset, .unset] [])
      refine Rch.go (fun _ q => XS.iload X0.here hx rfl (hb hby at_46) rfl  q) ?_
      show Rch p ev below _ s₁ (mkF m 48 #[.val (.int p1), .val (.int p2), .val (.int p3), .val (.int p4), .val (.int p5), .val (.int ca), .val (.int cb), .val (.int cc), .val (.int (1 : Int32)), .val (.int (p5 &&& (3 : Int32))), .unset, .unset, .unset, .unset, .unset, .unset] [(.int ca)])
      refine Rch.go (fun _ q => XS.goto X0.here hx rfl (pc0 := 48) (pc' := 77) rfl (hb hby at_48) (by decide) (by decide) q) ?_
      show Rch p ev below _ s₁ (mkF m 77 #[.val (.int p1), .val (.int p2), .val (.int p3), .val (.int p4), .val (.int p5), .val (.int ca), .val (.int cb), .val (.int cc), .val (.int (1 : Int32)), .val (.int (p5 &&& (3 : Int32))), .unset, .unset, .unset, .unset, .unset, .unset] [(.int ca)])
      refine Rch.go (fun _ q => XS.istore X0.here hx rfl (hb hby at_77) rfl (l' := #[.val (.int p1), .val (.int p2), .val (.int p3), .val (.int p4), .val (.int p5), .val (.int ca), .val (.int cb), .val (.int cc), .val (.int (1 : Int32)), .val (.int (p5 &&& (3 : Int32))), .val (.int ca), .unset, .unset, .unset, .unset, .unset]) rfl q) ?_
      show Rch p ev below _ s₁ (mkF m 79 #[.val (.int p1), .val (.int p2), .val (.int p3), .val (.int p4), .val (.int p5), .val (.int ca), .val (.int cb), .val (.int cc), .val (.int (1 : Int32)), .val (.int (p5 &&& (3 : Int32))), .val (.int ca), .unset, .unset, .unset, .unset, .unset] [])
      exact tail1 ca ha.1
    · skip
      refine Rch.go (fun _ q => XS.ifYes X0.here hx rfl (pc0 := 43) (pc' := 51) rfl (hb hby at_43) rfl ((if0 _ _).trans (feq hc43).2) (by decide) (by decide) q) ?_
      show Rch p ev below _ s₁ (mkF m 51 #[.val (.int p1), .val (.int p2), .val (.int p3), .val (.int p4), .val (.int p5), .val (.int ca), .val (.int cb), .val (.int cc), .val (.int (1 : Int32)), .val (.int (p5 &&& (3 : Int32))), .unset, .unset, .unset, .unset, .unset, .unset] [])
      refine Rch.go (fun _ q => XS.iload X0.here hx rfl (hb hby at_51) rfl  q) ?_
      show Rch p ev below _ s₁ (mkF m 53 #[.val (.int p1), .val (.int p2), .val (.int p3), .val (.int p4), .val (.int p5), .val (.int ca), .val (.int cb), .val (.int cc), .val (.int (1 : Int32)), .val (.int (p5 &&& (3 : Int32))), .unset, .unset, .unset, .unset, .unset, .unset] [(.int (p5 &&& (3 : Int32)))])
      refine Rch.go (fun _ q => XS.iconst X0.here hx rfl (hb hby at_53) q) ?_
      show Rch p ev below _ s₁ (mkF m 54 #[.val (.int p1), .val (.int p2), .val (.int p3), .val (.int p4), .val (.int p5), .val (.int ca), .val (.int cb), .val (.int cc), .val (.int (1 : Int32)), .val (.int (p5 &&& (3 : Int32))), .unset, .unset, .unset, .unset, .unset, .unset] [(.int (1 : Int32)), (.int (p5 &&& (3 : Int32)))])
      by_cases hc54 : (p5 &&& (3 : Int32)) = (1 : Int32)
      · skip
        refine Rch.go (fun _ q => XS.icmpNo X0.here hx rfl (hb hby at_54) rfl (teq hc54).2 q) ?_
        show Rch p ev below _ s₁ (mkF m 57 #[.val (.int p1), .val (.int p2), .val (.int p3), .val (.int p4), .val (.int p5), .val (.int ca), .val (.int cb), .val (.int cc), .val (.int (1 : Int32)), .val (.int (p5 &&& (3 : Int32))), .unset, .unset, .unset, .unset, .unset, .unset] [])
        refine Rch.go (fun _ q => XS.iload X0.here hx rfl (hb hby at_57) rfl  q) ?_
        show Rch p ev below _ s₁ (mkF m 59 #[.val (.int p1), .val (.int p2), .val (.int p3), .val (.int p4), .val (.int p5), .val (.int ca), .val (.int cb), .val (.int cc), .val (.int (1 : Int32)), .val (.int (p5 &&& (3 : Int32))), .unset, .unset, .unset, .unset, .unset, .unset] [(.int cb)])
        refine Rch.go (fun _ q => XS.goto X0.here hx rfl (pc0 := 59) (pc' := 77) rfl (hb hby at_59) (by decide) (by decide) q) ?_
        show Rch p ev below _ s₁ (mkF m 77 #[.val (.int p1), .val (.int p2), .val (.int p3), .val (.int p4), .val (.int p5), .val (.int ca), .val (.int cb), .val (.int cc), .val (.int (1 : Int32)), .val (.int (p5 &&& (3 : Int32))), .unset, .unset, .unset, .unset, .unset, .unset] [(.int cb)])
        refine Rch.go (fun _ q => XS.istore X0.here hx rfl (hb hby at_77) rfl (l' := #[.val (.int p1), .val (.int p2), .val (.int p3), .val (.int p4), .val (.int p5), .val (.int ca), .val (.int cb), .val (.int cc), .val (.int (1 : Int32)), .val (.int (p5 &&& (3 : Int32))), .val (.int cb), .unset, .unset, .unset, .unset, .unset]) rfl q) ?_
        show Rch p ev below _ s₁ (mkF m 79 #[.val (.int p1), .val (.int p2), .val (.int p3), .val (.int p4), .val (.int p5), .val (.int ca), .val (.int cb), .val (.int cc), .val (.int (1 : Int32)), .val (.int (p5 &&& (3 : Int32))), .val (.int cb), .unset, .unset, .unset, .unset, .unset] [])
        exact tail1 cb hb'.1
      · skip
        refine Rch.go (fun _ q => XS.icmpYes X0.here hx rfl (pc0 := 54) (pc' := 62) rfl (hb hby at_54) rfl (feq hc54).2 (by decide) (by decide) q) ?_
        show Rch p ev below _ s₁ (mkF m 62 #[.val (.int p1), .val (.int p2), .val (.int p3), .val (.int p4), .val (.int p5), .val (.int ca), .val (.int cb), .val (.int cc), .val (.int (1 : Int32)), .val (.int (p5 &&& (3 : Int32))), .unset, .unset, .unset, .unset, .unset, .unset] [])
        refine Rch.go (fun _ q => XS.iload X0.here hx rfl (hb hby at_62) rfl  q) ?_
        show Rch p ev below _ s₁ (mkF m 64 #[.val (.int p1), .val (.int p2), .val (.int p3), .val (.int p4), .val (.int p5), .val (.int ca), .val (.int cb), .val (.int cc), .val (.int (1 : Int32)), .val (.int (p5 &&& (3 : Int32))), .unset, .unset, .unset, .unset, .unset, .unset] [(.int (p5 &&& (3 : Int32)))])
        refine Rch.go (fun _ q => XS.iconst X0.here hx rfl (hb hby at_64) q) ?_
        show Rch p ev below _ s₁ (mkF m 65 #[.val (.int p1), .val (.int p2), .val (.int p3), .val (.int p4), .val (.int p5), .val (.int ca), .val (.int cb), .val (.int cc), .val (.int (1 : Int32)), .val (.int (p5 &&& (3 : Int32))), .unset, .unset, .unset, .unset, .unset, .unset] [(.int (2 : Int32)), (.int (p5 &&& (3 : Int32)))])
        by_cases hc65 : (p5 &&& (3 : Int32)) = (2 : Int32)
        · skip
          refine Rch.go (fun _ q => XS.icmpNo X0.here hx rfl (hb hby at_65) rfl (teq hc65).2 q) ?_
          show Rch p ev below _ s₁ (mkF m 68 #[.val (.int p1), .val (.int p2), .val (.int p3), .val (.int p4), .val (.int p5), .val (.int ca), .val (.int cb), .val (.int cc), .val (.int (1 : Int32)), .val (.int (p5 &&& (3 : Int32))), .unset, .unset, .unset, .unset, .unset, .unset] [])
          refine Rch.go (fun _ q => XS.iload X0.here hx rfl (hb hby at_68) rfl  q) ?_
          show Rch p ev below _ s₁ (mkF m 70 #[.val (.int p1), .val (.int p2), .val (.int p3), .val (.int p4), .val (.int p5), .val (.int ca), .val (.int cb), .val (.int cc), .val (.int (1 : Int32)), .val (.int (p5 &&& (3 : Int32))), .unset, .unset, .unset, .unset, .unset, .unset] [(.int cc)])
          refine Rch.go (fun _ q => XS.goto X0.here hx rfl (pc0 := 70) (pc' := 77) rfl (hb hby at_70) (by decide) (by decide) q) ?_
          show Rch p ev below _ s₁ (mkF m 77 #[.val (.int p1), .val (.int p2), .val (.int p3), .val (.int p4), .val (.int p5), .val (.int ca), .val (.int cb), .val (.int cc), .val (.int (1 : Int32)), .val (.int (p5 &&& (3 : Int32))), .unset, .unset, .unset, .unset, .unset, .unset] [(.int cc)])
          refine Rch.go (fun _ q => XS.istore X0.here hx rfl (hb hby at_77) rfl (l' := #[.val (.int p1), .val (.int p2), .val (.int p3), .val (.int p4), .val (.int p5), .val (.int ca), .val (.int cb), .val (.int cc), .val (.int (1 : Int32)), .val (.int (p5 &&& (3 : Int32))), .val (.int cc), .unset, .unset, .unset, .unset, .unset]) rfl q) ?_
          show Rch p ev below _ s₁ (mkF m 79 #[.val (.int p1), .val (.int p2), .val (.int p3), .val (.int p4), .val (.int p5), .val (.int ca), .val (.int cb), .val (.int cc), .val (.int (1 : Int32)), .val (.int (p5 &&& (3 : Int32))), .val (.int cc), .unset, .unset, .unset, .unset, .unset] [])
          exact tail1 cc hc'.1
        · skip
          refine Rch.go (fun _ q => XS.icmpYes X0.here hx rfl (pc0 := 65) (pc' := 73) rfl (hb hby at_65) rfl (feq hc65).2 (by decide) (by decide) q) ?_
          show Rch p ev below _ s₁ (mkF m 73 #[.val (.int p1), .val (.int p2), .val (.int p3), .val (.int p4), .val (.int p5), .val (.int ca), .val (.int cb), .val (.int cc), .val (.int (1 : Int32)), .val (.int (p5 &&& (3 : Int32))), .unset, .unset, .unset, .unset, .unset, .unset] [])
          refine Rch.go (fun _ q => XS.iloadN X0.here hx rfl (hb hby at_73) rfl  q) ?_
          show Rch p ev below _ s₁ (mkF m 74 #[.val (.int p1), .val (.int p2), .val (.int p3), .val (.int p4), .val (.int p5), .val (.int ca), .val (.int cb), .val (.int cc), .val (.int (1 : Int32)), .val (.int (p5 &&& (3 : Int32))), .unset, .unset, .unset, .unset, .unset, .unset] [(.int p4)])
          refine Rch.go (fun _ q => X0.ldcI hx (own := "com/example/pocket_reasoner/pocketreasoner/tableau/ConceptCountsOfPinLaw") hown (mvT hZ (hw _ (List.mem_of_getElem? (i := 22) rfl))) rfl (hb hby at_74) q) ?_
          show Rch p ev below _ s₁ (mkF m 76 #[.val (.int p1), .val (.int p2), .val (.int p3), .val (.int p4), .val (.int p5), .val (.int ca), .val (.int cb), .val (.int cc), .val (.int (1 : Int32)), .val (.int (p5 &&& (3 : Int32))), .unset, .unset, .unset, .unset, .unset, .unset] [(.int (2147483647 : Int32)), (.int p4)])
          refine Rch.go (fun _ q => XS.iand X0.here hx rfl (hb hby at_76) rfl q) ?_
          show Rch p ev below _ s₁ (mkF m 77 #[.val (.int p1), .val (.int p2), .val (.int p3), .val (.int p4), .val (.int p5), .val (.int ca), .val (.int cb), .val (.int cc), .val (.int (1 : Int32)), .val (.int (p5 &&& (3 : Int32))), .unset, .unset, .unset, .unset, .unset, .unset] [(.int (p4 &&& (2147483647 : Int32)))])
          refine Rch.go (fun _ q => XS.istore X0.here hx rfl (hb hby at_77) rfl (l' := #[.val (.int p1), .val (.int p2), .val (.int p3), .val (.int p4), .val (.int p5), .val (.int ca), .val (.int cb), .val (.int cc), .val (.int (1 : Int32)), .val (.int (p5 &&& (3 : Int32))), .val (.int (p4 &&& (2147483647 : Int32))), .unset, .unset, .unset, .unset, .unset]) rfl q) ?_
          show Rch p ev below _ s₁ (mkF m 79 #[.val (.int p1), .val (.int p2), .val (.int p3), .val (.int p4), .val (.int p5), .val (.int ca), .val (.int cb), .val (.int cc), .val (.int (1 : Int32)), .val (.int (p5 &&& (3 : Int32))), .val (.int (p4 &&& (2147483647 : Int32))), .unset, .unset, .unset, .unset, .unset] [])
          exact tail1 (p4 &&& (2147483647 : Int32)) hd'.1
set_option maxRecDepth 65536 in
set_option maxHeartbeats 40000000 in
theorem comes_1 {Post : Tables → Env → Array Value → State → Outcome → State → Prop} (hpost : ∀ tb e args s v u, (limb_1_1.after args s (.returned v) u = true ∧ limb_1_2.after args s (.returned v) u = true ∧ True) → FrameEnd s (.returned v) u (Jvm.fieldLocs frame_1_writes args s ++ Jvm.arrayLocs frame_1_arrays args s ++ Jvm.staticLocs frame_1_statics s) 16 1728 → Post tb e args s (.returned v) u) :
    ArmFor flags0 classFile x code maxLocals ret World_1 tables_1 room_1 Calls_1 rest_1 Pre_1 Post := by
  intro l hfl _ _ p e ha hc hk s m args below hf hA hF happ hP
  obtain ⟨hcalls, hrest, hpre⟩ := hP
  obtain ⟨-, -, -, hnamed, -, -, -, hat⟩ := (Spec.applies_iff hf).mp happ
  obtain ⟨hg, hn⟩ := and_e (Cond.before_iff.mp (show (Jvm.Cond.and given_1 narrow_1).before args s = true from hpre))
  obtain ⟨hcnt, hr0⟩ := and_e hg
  obtain ⟨w0, w1, w2, w3, w4, rfl⟩ : ∃ w0 w1 w2 w3 w4 : Value, args = #[w0, w1, w2, w3, w4] := by
    have hs : args.size = 5 := by simpa [Cond.value, given_1] using hcnt
    obtain ⟨L⟩ := args
    match L, hs with
    | [w0, w1, w2, w3, w4], _ => exact ⟨w0, w1, w2, w3, w4, rfl⟩
  have hw := fun d (hd : d ∈ tables_1) => atoms_spec (ws := Jvm.Cond.code x code maxLocals ret :: tables_1) hat d (List.mem_cons_of_mem _ hd)
  obtain ⟨ha0, hr1⟩ := and_e hr0
  obtain ⟨i0, e0⟩ := is_v ha0
  obtain rfl : w0 = (.int i0) := Option.some.inj e0
  obtain ⟨ha1, hr2⟩ := and_e hr1
  obtain ⟨i1, e1⟩ := is_v ha1
  obtain rfl : w1 = (.int i1) := Option.some.inj e1
  obtain ⟨ha2, hr3⟩ := and_e hr2
  obtain ⟨i2, e2⟩ := is_v ha2
  obtain rfl : w2 = (.int i2) := Option.some.inj e2
  obtain ⟨ha3, hr4⟩ := and_e hr3
  obtain ⟨i3, e3⟩ := is_v ha3
  obtain rfl : w3 = (.int i3) := Option.some.inj e3
  obtain ⟨i4, e4⟩ := is_v hr4
  obtain rfl : w4 = (.int i4) := Option.some.inj e4
  obtain ⟨n, o, h1, h2, h3, _, L, rfl, ⟨rfl, N⟩, hq⟩ := rm0 l s _ hw tables_1 i0 i1 i2 i3 i4 s.heap s.heap.size (Nat.le_refl _) p e ha hc hk s m _ below hf ((Spec.applies_iff_loose hf).mp happ).1 ⟨rfl, State.Warmed39.refl s, rfl⟩ trivial
  refine ⟨n, _, h1, h2, h3, hpost _ _ _ _ _ _ ⟨Cond.after_iff.mpr rfl, Cond.after_iff.mpr (eq_i res_at (Term.int_eval (1)) rfl), trivial⟩ ⟨hq.1, hq.2.1, (hq.2.2.sift fun y hy => Or.inr (N y hy)).mono (by decide) (by decide)⟩⟩
theorem main_1_1 : Claimed_1_1 := comes_1 fun _ _ _ _ _ _ h hF => ⟨h.1, hF⟩
theorem main_1_2 : Claimed_1_2 := comes_1 fun _ _ _ _ _ _ h hF => ⟨h.2.1, hF⟩
end Jvm.Pilot.@@N@@
namespace Jvm.Pilot.@@N@@
open Jvm Jvm.ClassFile Sem Op Lib Jvm.Free Jvm.Stand Jvm.Pilot.@@N@@.Jvm.D
/-! MADE BY PROGRAM (witnessworld.py) out of the Statement's table words and the real class files: 14 classes; the members and pool entries that the words name. The judged class is class 1, her method 1. -/
namespace start1
open Jvm.ClassFile
def u (s : String) : CpInfo := .utf8 (stringToUtf16 s)
/-- a pool by its gaps: so many unusable entries, then the entry; so many at the end -/
def gap : Nat → List CpInfo → List CpInfo
  | 0, r => r
  | n + 1, r => .unusable :: gap n r
def poolList (es : List (Nat × CpInfo)) (last : Nat) : List CpInfo := es.foldr (fun e r => gap e.1 (e.2 :: r)) (gap last [])
def pool (es : List (Nat × CpInfo)) (last : Nat) : Array CpInfo := ⟨poolList es last⟩
def fileOf (pool : Array CpInfo) (this : Nat) (attrs : Array Attribute := #[]) (ms : Array MethodInfo := #[]) (fl : Nat := 33) (sup : Nat := 0) (ifs : Array Nat := #[]) (fds : Array FieldInfo := #[]) : ClassFile where
  minorVersion := 0
  majorVersion := 65
  constantPool := pool
  accessFlags := fl
  thisClass := this
  superClass := sup
  interfaces := ifs
  fields := fds
  methods := ms
  attributes := attrs
def plain (name : String) (sup : Option ClassId) : Class where
  name := name
  kind := .ordinary
  loader := none
  accessFlags := 33
  super := sup
  interfaces := #[]
  cf := none
  fields := #[]
  methods := #[]
  instanceTypes := #[]
  staticTypes := #[]
  resolved := #[]
  callSites := []
  init := .initialized
  statics := none
  mirror := none

def pool0 : Array CpInfo := pool [(5, u "<init>"), (0, u "()V"), (1, .class_ 10), (1, u "java/lang/Object")] 113

def k0c0 : Code := { maxStack := 0, maxLocals := 1, code := object_method_1_code, exceptionTable := #[], attributes := #[] }
def k0m0 : Method := { name := "<init>", desc := "()V", sig := { parameters := [], returnType := none }, accessFlags := 1, code := some k0c0 }
/-- java/lang/Object -/
def k0 : Class := { plain "java/lang/Object" none with
  accessFlags := 33
  interfaces := #[]
  cf := some (fileOf pool0 8 #[] #[{ accessFlags := 1, nameIndex := 5, descriptorIndex := 6, attributes := #[] }] 33 0 #[] #[])
  fields := #[]
  methods := #[k0m0]
  instanceTypes := #[]
  staticTypes := #[]
  resolved := Array.replicate 124 none
  statics := none }

def pool1 : Array CpInfo := pool [(2, .class_ 4), (0, .nameAndType 5 6), (0, u "java/lang/Object"), (0, u "<init>"), (0, u "()V"), (0, .integer 2147483647), (0, .class_ 9), (0, u "com/example/pocket_reasoner/pocketreasoner/tableau/ConceptCounts"), (0, .methodref 8 3), (0, .methodref 8 12), (0, .nameAndType 13 14), (0, u "of"), (0, u "(I)J"), (0, .methodref 8 16), (0, .nameAndType 17 18), (0, u "increment"), (0, u "(I)V"), (0, .class_ 20), (0, u "com/example/pocket_reasoner/pocketreasoner/tableau/ConceptCountsOfPinLaw"), (2, u "law"), (0, u "(IIIII)Z")] 3

def k1m0 : Method := { name := "<init>", desc := "()V", sig := { parameters := [], returnType := none }, accessFlags := 1, code := none }
def k1c1 : Code := { maxStack := 4, maxLocals := 16, code := code, exceptionTable := #[], attributes := #[] }
def k1m1 : Method := { name := "law", desc := "(IIIII)Z", sig := { parameters := [.int, .int, .int, .int, .int], returnType := some .boolean }, accessFlags := 9, code := some k1c1 }
/-- com/example/pocket_reasoner/pocketreasoner/tableau/ConceptCountsOfPinLaw -/
def k1 : Class := { plain "com/example/pocket_reasoner/pocketreasoner/tableau/ConceptCountsOfPinLaw" (some 0) with
  accessFlags := 49
  interfaces := #[]
  cf := some (fileOf pool1 19 #[] #[{ accessFlags := 1, nameIndex := 5, descriptorIndex := 6, attributes := #[] }, { accessFlags := 9, nameIndex := 23, descriptorIndex := 24, attributes := #[] }] 49 2 #[] #[])
  fields := #[]
  methods := #[k1m0, k1m1]
  instanceTypes := #[]
  staticTypes := #[]
  resolved := Array.replicate 28 none
  statics := none }

def pool2 : Array CpInfo := pool [(1, .methodref 2 3), (0, .class_ 4), (0, .nameAndType 5 6), (0, u "java/lang/Object"), (0, u "<init>"), (0, u "()V"), (0, .fieldref 8 9), (0, .class_ 10), (0, .nameAndType 11 12), (0, u "com/example/pocket_reasoner/pocketreasoner/tableau/ConceptCounts"), (0, u "counts"), (0, u "[J"), (0, .methodref 14 15), (0, .class_ 16), (0, .nameAndType 17 18), (0, u "java/lang/Math"), (0, u "max"), (0, u "(II)I"), (0, .methodref 20 21), (0, .class_ 22), (0, .nameAndType 23 24), (0, u "java/util/Arrays"), (0, u "copyOf"), (0, u "([JI)[J"), (2, u "of"), (0, u "(I)J"), (1, u "increment"), (0, u "(I)V")] 2

def k2c0 : Code := { maxStack := 2, maxLocals := 1, code := prog_46_method_1_code, exceptionTable := #[], attributes := #[] }
def k2m0 : Method := { name := "<init>", desc := "()V", sig := { parameters := [], returnType := none }, accessFlags := 0, code := some k2c0 }
def k2c1 : Code := { maxStack := 2, maxLocals := 2, code := prog_46_method_2_code, exceptionTable := #[], attributes := #[] }
def k2m1 : Method := { name := "of", desc := "(I)J", sig := { parameters := [.int], returnType := some .long }, accessFlags := 0, code := some k2c1 }
def k2c2 : Code := { maxStack := 6, maxLocals := 2, code := prog_46_method_3_code, exceptionTable := #[], attributes := #[] }
def k2m2 : Method := { name := "increment", desc := "(I)V", sig := { parameters := [.int], returnType := none }, accessFlags := 0, code := some k2c2 }
/-- com/example/pocket_reasoner/pocketreasoner/tableau/ConceptCounts -/
def k2 : Class := { plain "com/example/pocket_reasoner/pocketreasoner/tableau/ConceptCounts" (some 0) with
  accessFlags := 32
  interfaces := #[]
  cf := some (fileOf pool2 8 #[] #[{ accessFlags := 0, nameIndex := 5, descriptorIndex := 6, attributes := #[] }, { accessFlags := 0, nameIndex := 27, descriptorIndex := 28, attributes := #[] }, { accessFlags := 0, nameIndex := 30, descriptorIndex := 31, attributes := #[] }] 32 2 #[] #[{ accessFlags := 2, nameIndex := 11, descriptorIndex := 12, attributes := #[] }])
  fields := #[{ name := "counts", type := (.array .long), accessFlags := 2, slot := 0, constantValue := 0 }]
  methods := #[k2m0, k2m1, k2m2]
  instanceTypes := #[(.array .long)]
  staticTypes := #[]
  resolved := Array.replicate 34 none
  statics := none }

def pool3 : Array CpInfo := pool [(1, .class_ 2), (0, u "java/lang/Math"), (1, .class_ 6), (1, u "java/lang/Object"), (0, u "<init>"), (0, u "()V"), (89, .class_ 100), (1, u "java/lang/Math$RandomNumberGeneratorHolder"), (71, u "negativeZeroFloatBits"), (0, u "J"), (2, u "negativeZeroDoubleBits"), (21, u "max"), (2, u "min"), (43, u "$assertionsDisabled"), (0, u "Z"), (88, u "(II)I"), (2, u "twoToTheDoubleScaleDown"), (0, u "D"), (4, u "twoToTheDoubleScaleUp"), (9, u "E"), (3, u "PI"), (2, u "TAU"), (2, u "DEGREES_TO_RADIANS"), (0, u "RADIANS_TO_DEGREES")] 94

def k3m0 : Method := { name := "<init>", desc := "()V", sig := { parameters := [], returnType := none }, accessFlags := 2, code := none }
def k3c1 : Code := { maxStack := 2, maxLocals := 2, code := jdk_29_method_65_code, exceptionTable := #[], attributes := #[] }
def k3m1 : Method := { name := "max", desc := "(II)I", sig := { parameters := [.int, .int], returnType := some .int }, accessFlags := 9, code := some k3c1 }
def k3c2 : Code := { maxStack := 2, maxLocals := 2, code := jdk_29_method_69_code, exceptionTable := #[], attributes := #[] }
def k3m2 : Method := { name := "min", desc := "(II)I", sig := { parameters := [.int, .int], returnType := some .int }, accessFlags := 9, code := some k3c2 }
/-- java/lang/Math -/
def k3 : Class := { plain "java/lang/Math" (some 0) with
  accessFlags := 49
  interfaces := #[]
  cf := some (fileOf pool3 1 #[.nestMembers #[98]] #[{ accessFlags := 2, nameIndex := 7, descriptorIndex := 8, attributes := #[] }, { accessFlags := 9, nameIndex := 198, descriptorIndex := 335, attributes := #[] }, { accessFlags := 9, nameIndex := 201, descriptorIndex := 335, attributes := #[] }] 49 4 #[] #[{ accessFlags := 25, nameIndex := 354, descriptorIndex := 339, attributes := #[] }, { accessFlags := 25, nameIndex := 358, descriptorIndex := 339, attributes := #[] }, { accessFlags := 25, nameIndex := 361, descriptorIndex := 339, attributes := #[] }, { accessFlags := 26, nameIndex := 364, descriptorIndex := 339, attributes := #[] }, { accessFlags := 26, nameIndex := 365, descriptorIndex := 339, attributes := #[] }, { accessFlags := 26, nameIndex := 172, descriptorIndex := 173, attributes := #[] }, { accessFlags := 26, nameIndex := 176, descriptorIndex := 173, attributes := #[] }, { accessFlags := 8, nameIndex := 344, descriptorIndex := 339, attributes := #[] }, { accessFlags := 8, nameIndex := 338, descriptorIndex := 339, attributes := #[] }, { accessFlags := 4120, nameIndex := 245, descriptorIndex := 246, attributes := #[] }])
  fields := #[{ name := "E", type := .double, accessFlags := 25, slot := 0, constantValue := 0 }, { name := "PI", type := .double, accessFlags := 25, slot := 1, constantValue := 0 }, { name := "TAU", type := .double, accessFlags := 25, slot := 2, constantValue := 0 }, { name := "DEGREES_TO_RADIANS", type := .double, accessFlags := 26, slot := 3, constantValue := 0 }, { name := "RADIANS_TO_DEGREES", type := .double, accessFlags := 26, slot := 4, constantValue := 0 }, { name := "negativeZeroFloatBits", type := .long, accessFlags := 26, slot := 5, constantValue := 0 }, { name := "negativeZeroDoubleBits", type := .long, accessFlags := 26, slot := 6, constantValue := 0 }, { name := "twoToTheDoubleScaleUp", type := .double, accessFlags := 8, slot := 7, constantValue := 0 }, { name := "twoToTheDoubleScaleDown", type := .double, accessFlags := 8, slot := 8, constantValue := 0 }, { name := "$assertionsDisabled", type := .boolean, accessFlags := 4120, slot := 9, constantValue := 0 }]
  methods := #[k3m0, k3m1, k3m2]
  instanceTypes := #[]
  staticTypes := #[.double, .double, .double, .double, .double, .long, .long, .double, .double, .boolean]
  resolved := Array.replicate 460 none
  statics := none }

def pool4 : Array CpInfo := pool [(2, .class_ 4), (1, u "java/lang/Object"), (0, u "<init>"), (0, u "()V"), (7, .class_ 16), (1, u "java/util/Arrays"), (57, .class_ 76), (1, u "java/util/Arrays$NaturalOrder"), (36, .class_ 115), (1, u "java/util/Arrays$LegacyMergeSort"), (1, u "Z"), (32, .methodref 151 152), (0, .class_ 153), (0, .nameAndType 154 155), (0, u "java/lang/System"), (0, u "arraycopy"), (0, u "(Ljava/lang/Object;ILjava/lang/Object;II)V"), (146, u "copyOf"), (1, .methodref 305 306), (0, .class_ 307), (0, .nameAndType 308 309), (0, u "java/lang/Math"), (0, u "min"), (0, u "(II)I"), (65, .class_ 376), (0, u "java/util/Arrays$ArrayList"), (68, u "$assertionsDisabled"), (269, u "MIN_ARRAY_SORT_GRAN"), (0, u "I"), (2, u "INSERTIONSORT_THRESHOLD"), (152, u "([JI)[J"), (102, .class_ 976), (0, u "java/util/Arrays$ArrayItr")] 52

def k4m0 : Method := { name := "<init>", desc := "()V", sig := { parameters := [], returnType := none }, accessFlags := 2, code := none }
def k4c1 : Code := { maxStack := 6, maxLocals := 3, code := jdk_65_method_124_code, exceptionTable := #[], attributes := #[] }
def k4m1 : Method := { name := "copyOf", desc := "([JI)[J", sig := { parameters := [(.array .long), .int], returnType := some (.array .long) }, accessFlags := 9, code := some k4c1 }
/-- java/util/Arrays -/
def k4 : Class := { plain "java/util/Arrays" (some 0) with
  accessFlags := 49
  interfaces := #[]
  cf := some (fileOf pool4 14 #[.nestMembers #[975, 375, 113, 74]] #[{ accessFlags := 2, nameIndex := 5, descriptorIndex := 6, attributes := #[] }, { accessFlags := 9, nameIndex := 302, descriptorIndex := 872, attributes := #[] }] 49 2 #[] #[{ accessFlags := 26, nameIndex := 715, descriptorIndex := 716, attributes := #[] }, { accessFlags := 26, nameIndex := 719, descriptorIndex := 716, attributes := #[] }, { accessFlags := 4120, nameIndex := 445, descriptorIndex := 117, attributes := #[] }])
  fields := #[{ name := "MIN_ARRAY_SORT_GRAN", type := .int, accessFlags := 26, slot := 0, constantValue := 0 }, { name := "INSERTIONSORT_THRESHOLD", type := .int, accessFlags := 26, slot := 1, constantValue := 0 }, { name := "$assertionsDisabled", type := .boolean, accessFlags := 4120, slot := 2, constantValue := 0 }]
  methods := #[k4m0, k4m1]
  instanceTypes := #[]
  staticTypes := #[.int, .int, .boolean]
  resolved := Array.replicate 1029 none
  statics := none }

def pool5 : Array CpInfo := pool [(2, .class_ 4), (1, u "java/lang/Object"), (0, u "<init>"), (0, u "()V"), (1, .class_ 10), (1, u "java/lang/System"), (0, u "allowSecurityManager"), (0, u "I"), (16, u "cons"), (0, u "Ljava/io/Console;"), (77, .class_ 110), (1, u "java/lang/System$CallersHolder"), (43, u "initialErrStream"), (0, u "Ljava/io/PrintStream;"), (19, u "security"), (0, u "Ljava/lang/SecurityManager;"), (31, .class_ 209), (0, u "java/lang/System$1"), (7, u "props"), (0, u "Ljava/util/Properties;"), (2, u "lineSeparator"), (0, u "Ljava/lang/String;"), (96, .class_ 321), (1, u "java/lang/System$LoggerFinder"), (5, .class_ 328), (0, u "java/lang/System$Logger"), (67, u "err"), (2, u "out"), (91, u "notSupportedJnuEncoding"), (15, u "in"), (17, u "initialIn"), (0, u "Ljava/io/InputStream;"), (35, u "bootLayer"), (0, u "Ljava/lang/ModuleLayer;"), (99, .class_ 664), (0, u "java/lang/System$2"), (9, u "NEVER"), (2, u "MAYBE"), (49, u "arraycopy"), (0, u "(Ljava/lang/Object;ILjava/lang/Object;II)V"), (72, .class_ 802), (0, u "java/lang/System$Logger$Level")] 31

def k5m0 : Method := { name := "<init>", desc := "()V", sig := { parameters := [], returnType := none }, accessFlags := 2, code := none }
def k5m1 : Method := { name := "arraycopy", desc := "(Ljava/lang/Object;ILjava/lang/Object;II)V", sig := { parameters := [(.object "java/lang/Object"), .int, (.object "java/lang/Object"), .int, .int], returnType := none }, accessFlags := 265, code := none }
/-- java/lang/System -/
def k5 : Class := { plain "java/lang/System" (some 0) with
  accessFlags := 49
  interfaces := #[]
  cf := some (fileOf pool5 8 #[.nestMembers #[319, 327, 801, 108, 663, 208]] #[{ accessFlags := 2, nameIndex := 5, descriptorIndex := 6, attributes := #[] }, { accessFlags := 265, nameIndex := 727, descriptorIndex := 728, attributes := #[] }] 49 2 #[] #[{ accessFlags := 25, nameIndex := 507, descriptorIndex := 526, attributes := #[] }, { accessFlags := 25, nameIndex := 399, descriptorIndex := 155, attributes := #[] }, { accessFlags := 25, nameIndex := 396, descriptorIndex := 155, attributes := #[] }, { accessFlags := 10, nameIndex := 525, descriptorIndex := 526, attributes := #[] }, { accessFlags := 26, nameIndex := 674, descriptorIndex := 12, attributes := #[] }, { accessFlags := 26, nameIndex := 677, descriptorIndex := 12, attributes := #[] }, { accessFlags := 10, nameIndex := 11, descriptorIndex := 12, attributes := #[] }, { accessFlags := 74, nameIndex := 175, descriptorIndex := 176, attributes := #[] }, { accessFlags := 10, nameIndex := 491, descriptorIndex := 222, attributes := #[] }, { accessFlags := 74, nameIndex := 29, descriptorIndex := 30, attributes := #[] }, { accessFlags := 74, nameIndex := 154, descriptorIndex := 155, attributes := #[] }, { accessFlags := 10, nameIndex := 217, descriptorIndex := 218, attributes := #[] }, { accessFlags := 10, nameIndex := 221, descriptorIndex := 222, attributes := #[] }, { accessFlags := 8, nameIndex := 562, descriptorIndex := 563, attributes := #[] }])
  fields := #[{ name := "in", type := (.object "java/io/InputStream"), accessFlags := 25, slot := 0, constantValue := 0 }, { name := "out", type := (.object "java/io/PrintStream"), accessFlags := 25, slot := 1, constantValue := 0 }, { name := "err", type := (.object "java/io/PrintStream"), accessFlags := 25, slot := 2, constantValue := 0 }, { name := "initialIn", type := (.object "java/io/InputStream"), accessFlags := 10, slot := 3, constantValue := 0 }, { name := "NEVER", type := .int, accessFlags := 26, slot := 4, constantValue := 0 }, { name := "MAYBE", type := .int, accessFlags := 26, slot := 5, constantValue := 0 }, { name := "allowSecurityManager", type := .int, accessFlags := 10, slot := 6, constantValue := 0 }, { name := "security", type := (.object "java/lang/SecurityManager"), accessFlags := 74, slot := 7, constantValue := 0 }, { name := "notSupportedJnuEncoding", type := (.object "java/lang/String"), accessFlags := 10, slot := 8, constantValue := 0 }, { name := "cons", type := (.object "java/io/Console"), accessFlags := 74, slot := 9, constantValue := 0 }, { name := "initialErrStream", type := (.object "java/io/PrintStream"), accessFlags := 74, slot := 10, constantValue := 0 }, { name := "props", type := (.object "java/util/Properties"), accessFlags := 10, slot := 11, constantValue := 0 }, { name := "lineSeparator", type := (.object "java/lang/String"), accessFlags := 10, slot := 12, constantValue := 0 }, { name := "bootLayer", type := (.object "java/lang/ModuleLayer"), accessFlags := 8, slot := 13, constantValue := 0 }]
  methods := #[k5m0, k5m1]
  instanceTypes := #[]
  staticTypes := #[(.object "java/io/InputStream"), (.object "java/io/PrintStream"), (.object "java/io/PrintStream"), (.object "java/io/InputStream"), .int, .int, .int, (.object "java/lang/SecurityManager"), (.object "java/lang/String"), (.object "java/io/Console"), (.object "java/io/PrintStream"), (.object "java/util/Properties"), (.object "java/lang/String"), (.object "java/lang/ModuleLayer")]
  resolved := Array.replicate 834 none
  statics := none }

def pool6 : Array CpInfo := pool [(1, u "java/lang/Cloneable"), (0, .class_ 1), (0, u "java/lang/Object"), (0, .class_ 3)] 3

/-- java/lang/Cloneable -/
def k6 : Class := { plain "java/lang/Cloneable" (some 0) with
  accessFlags := 1537
  interfaces := #[]
  cf := some (fileOf pool6 2 #[] #[] 1537 4 #[] #[])
  fields := #[]
  methods := #[]
  instanceTypes := #[]
  staticTypes := #[]
  resolved := Array.replicate 8 none
  statics := none }

def pool7 : Array CpInfo := pool [(1, u "java/io/Serializable"), (0, .class_ 1), (0, u "java/lang/Object"), (0, .class_ 3)] 3

/-- java/io/Serializable -/
def k7 : Class := { plain "java/io/Serializable" (some 0) with
  accessFlags := 1537
  interfaces := #[]
  cf := some (fileOf pool7 2 #[] #[] 1537 4 #[] #[])
  fields := #[]
  methods := #[]
  instanceTypes := #[]
  staticTypes := #[]
  resolved := Array.replicate 8 none
  statics := none }

/-- the primitive byte -/
def k8 : Class := { plain "byte" none with kind := .primitive 'B', accessFlags := 0x411 }
/-- [B -/
def k9 : Class := { plain "[B" (some 0) with kind := .array 8 .byte, interfaces := #[6, 7], accessFlags := 1041 }

/-- the primitive int -/
def k10 : Class := { plain "int" none with kind := .primitive 'I', accessFlags := 0x411 }
/-- [I -/
def k11 : Class := { plain "[I" (some 0) with kind := .array 10 .int, interfaces := #[6, 7], accessFlags := 1041 }

/-- the primitive long -/
def k12 : Class := { plain "long" none with kind := .primitive 'J', accessFlags := 0x411 }
/-- [J -/
def k13 : Class := { plain "[J" (some 0) with kind := .array 12 .long, interfaces := #[6, 7], accessFlags := 1041 }

def heap : Heap := #[]
def classes : Array Class := #[k0, k1, k2, k3, k4, k5, k6, k7, k8, k9, k10, k11, k12, k13]
def interned : List (Array UInt16 × Addr) := []
def slotsUsed : Nat := 0
def theMethod : MethodId := ⟨1, 1⟩
def args0 : Array Value := #[.int 3, .int 5, .int 7, .int 9, .int 4]
def aboutOver (below : List Frame) : State where
  vm := { classes := classes, interned := interned.toArray }
  heap := heap
  slotsUsed := slotsUsed
  threads := #[{ frames := .invoking theMethod args0 :: below }]
def below0 : List Frame := [.native { method := ⟨0, 0⟩, args := #[] }]
def about1 : State := aboutOver below0
def p0 : Program := .bare "" "" ""
def e0 : Env := launch0.env 0 0 0
theorem w_frames : about1.frames = Frame.invoking theMethod args0 :: below0 := rfl
set_option maxRecDepth 65536 in
theorem w_args : argsFit about1.vm theMethod args0 = true := by decide +kernel
set_option maxRecDepth 65536 in
theorem w_heap : heapFits about1 = true := by decide +kernel
set_option maxRecDepth 65536 in
theorem w_runnable : about1.curStatus? = some .runnable := by decide +kernel
set_option maxRecDepth 65536 in
theorem w_alone : about1.alone = true := by decide +kernel
set_option maxRecDepth 65536 in
theorem w_named : about1.methodNamed? x = some theMethod := by decide +kernel
set_option maxRecDepth 65536 in
theorem w_hears : about1.hears theMethod below0 = true := by decide +kernel
set_option maxRecDepth 65536 in
theorem w_ripe : about1.ripe theMethod args0 below0 = true := by decide +kernel
theorem w_running : about1.status = .running := rfl
set_option maxRecDepth 65536 in
theorem w_room : about1.hasRoom e0.platform room_1 = true :=
  launch0.hasRoom_least _ room_1 (by decide +kernel) (by decide +kernel) (by decide +kernel) (by decide +kernel) (by decide +kernel) (by decide +kernel)
theorem allAtoms_all (ts : List Jvm.Cond) (a : Array Jvm.Value) (st : Jvm.State) : (allAtoms ts).before a st = ts.all (fun c => c.before a st) := by
  induction ts with
  | nil => rfl
  | cons c t ih =>
    show (Jvm.Cond.and c (allAtoms t)).before a st = _
    rw [Jvm.Cond.before_and, ih, List.all_cons]
def words1 : List Jvm.Cond := Jvm.Cond.code x code maxLocals ret :: tables_1
/-- a 'code' word, met by the world's own term for the bytes: nothing is compared byte by byte -/
theorem code_word {y : MethodName} {bytes : ByteArray} {mx : Nat} {rt : Option FieldType} {a : Array Value} {s : State} {m : MethodId} {meth : Method} {c : Code} (h1 : s.methodNamed? y = some m) (h2 : s.vm.method? m = some meth) (h3 : meth.code = some c) (h4 : c.code = bytes)
    (h5 : (c.maxLocals == mx && c.exceptionTable.isEmpty && decide (c.maxStack ≤ mostOperands) && decide (meth.sig.returnType = rt) && !meth.locks && decide (parseMethodDescriptor y.desc = some meth.sig)) = true) : (Jvm.Cond.code y bytes mx rt).before a s = true := by
  simp only [Bool.and_eq_true, beq_iff_eq, Bool.not_eq_true', decide_eq_true_eq] at h5
  obtain ⟨⟨⟨⟨⟨g1, g2⟩, g3⟩, g4⟩, g5⟩, g6⟩ := h5
  simp [Cond.before, Cond.holds, Cond.value, h1, h2, h3, h4, g1, g2, g3, g4, g5, g6]
def isCode : Jvm.Cond → Bool
  | .code _ _ _ _ => true
  | _ => false
theorem all_split {L : List Jvm.Cond} {P : Jvm.Cond → Bool} (h1 : L.all (fun c => isCode c || P c) = true) (h2 : ∀ c ∈ L.filter isCode, P c = true) : L.all P = true := by
  refine List.all_eq_true.mpr fun c hc => ?_
  have h := List.all_eq_true.mp h1 c hc
  rcases Bool.eq_false_or_eq_true (isCode c) with hi | hi
  · exact h2 c (List.mem_filter.mpr ⟨hc, hi⟩)
  · simpa [hi] using h
set_option maxRecDepth 65536 in
theorem w_c0 : (Jvm.Cond.code x code maxLocals ret).before args0 about1 = true := code_word (m := ⟨1, 1⟩) (meth := k1m1) (c := k1c1) (by decide +kernel) rfl rfl rfl (by decide +kernel)
set_option maxRecDepth 65536 in
theorem w_c1 : (Jvm.Cond.code ({ cls := "com/example/pocket_reasoner/pocketreasoner/tableau/ConceptCounts", name := "<init>", desc := "()V" } : Jvm.MethodName) prog_46_method_1_code (1 : Nat) (Option.none : Option Jvm.ClassFile.FieldType)).before args0 about1 = true := code_word (m := ⟨2, 0⟩) (meth := k2m0) (c := k2c0) (by decide +kernel) rfl rfl rfl (by decide +kernel)
set_option maxRecDepth 65536 in
theorem w_c2 : (Jvm.Cond.code ({ cls := "java/lang/Object", name := "<init>", desc := "()V" } : Jvm.MethodName) object_method_1_code (1 : Nat) (Option.none : Option Jvm.ClassFile.FieldType)).before args0 about1 = true := code_word (m := ⟨0, 0⟩) (meth := k0m0) (c := k0c0) (by decide +kernel) rfl rfl rfl (by decide +kernel)
set_option maxRecDepth 65536 in
theorem w_c3 : (Jvm.Cond.code ({ cls := "com/example/pocket_reasoner/pocketreasoner/tableau/ConceptCounts", name := "of", desc := "(I)J" } : Jvm.MethodName) prog_46_method_2_code (2 : Nat) (Option.some Jvm.ClassFile.FieldType.long)).before args0 about1 = true := code_word (m := ⟨2, 1⟩) (meth := k2m1) (c := k2c1) (by decide +kernel) rfl rfl rfl (by decide +kernel)
set_option maxRecDepth 65536 in
theorem w_c4 : (Jvm.Cond.code ({ cls := "com/example/pocket_reasoner/pocketreasoner/tableau/ConceptCounts", name := "increment", desc := "(I)V" } : Jvm.MethodName) prog_46_method_3_code (2 : Nat) (Option.none : Option Jvm.ClassFile.FieldType)).before args0 about1 = true := code_word (m := ⟨2, 2⟩) (meth := k2m2) (c := k2c2) (by decide +kernel) rfl rfl rfl (by decide +kernel)
set_option maxRecDepth 65536 in
theorem w_c5 : (Jvm.Cond.code ({ cls := "java/lang/Math", name := "max", desc := "(II)I" } : Jvm.MethodName) jdk_29_method_65_code (2 : Nat) (Option.some Jvm.ClassFile.FieldType.int)).before args0 about1 = true := code_word (m := ⟨3, 1⟩) (meth := k3m1) (c := k3c1) (by decide +kernel) rfl rfl rfl (by decide +kernel)
set_option maxRecDepth 65536 in
theorem w_c6 : (Jvm.Cond.code ({ cls := "java/util/Arrays", name := "copyOf", desc := "([JI)[J" } : Jvm.MethodName) jdk_65_method_124_code (3 : Nat) (Option.some (Jvm.ClassFile.FieldType.array Jvm.ClassFile.FieldType.long))).before args0 about1 = true := code_word (m := ⟨4, 1⟩) (meth := k4m1) (c := k4c1) (by decide +kernel) rfl rfl rfl (by decide +kernel)
set_option maxRecDepth 65536 in
theorem w_c7 : (Jvm.Cond.code ({ cls := "java/lang/Math", name := "min", desc := "(II)I" } : Jvm.MethodName) jdk_29_method_69_code (2 : Nat) (Option.some Jvm.ClassFile.FieldType.int)).before args0 about1 = true := code_word (m := ⟨3, 2⟩) (meth := k3m2) (c := k3c2) (by decide +kernel) rfl rfl rfl (by decide +kernel)
def codes1 : List Jvm.Cond := [Jvm.Cond.code x code maxLocals ret, Jvm.Cond.code ({ cls := "com/example/pocket_reasoner/pocketreasoner/tableau/ConceptCounts", name := "<init>", desc := "()V" } : Jvm.MethodName) prog_46_method_1_code (1 : Nat) (Option.none : Option Jvm.ClassFile.FieldType), Jvm.Cond.code ({ cls := "java/lang/Object", name := "<init>", desc := "()V" } : Jvm.MethodName) object_method_1_code (1 : Nat) (Option.none : Option Jvm.ClassFile.FieldType), Jvm.Cond.code ({ cls := "com/example/pocket_reasoner/pocketreasoner/tableau/ConceptCounts", name := "of", desc := "(I)J" } : Jvm.MethodName) prog_46_method_2_code (2 : Nat) (Option.some Jvm.ClassFile.FieldType.long), Jvm.Cond.code ({ cls := "com/example/pocket_reasoner/pocketreasoner/tableau/ConceptCounts", name := "increment", desc := "(I)V" } : Jvm.MethodName) prog_46_method_3_code (2 : Nat) (Option.none : Option Jvm.ClassFile.FieldType), Jvm.Cond.code ({ cls := "java/lang/Math", name := "max", desc := "(II)I" } : Jvm.MethodName) jdk_29_method_65_code (2 : Nat) (Option.some Jvm.ClassFile.FieldType.int), Jvm.Cond.code ({ cls := "java/util/Arrays", name := "copyOf", desc := "([JI)[J" } : Jvm.MethodName) jdk_65_method_124_code (3 : Nat) (Option.some (Jvm.ClassFile.FieldType.array Jvm.ClassFile.FieldType.long)), Jvm.Cond.code ({ cls := "java/lang/Math", name := "min", desc := "(II)I" } : Jvm.MethodName) jdk_29_method_69_code (2 : Nat) (Option.some Jvm.ClassFile.FieldType.int)]
set_option maxRecDepth 65536 in
theorem codes_eq : words1.filter isCode = codes1 := rfl
theorem w_codes : ∀ c ∈ words1.filter isCode, c.before args0 about1 = true := by
  rw [codes_eq]
  intro c hc
  simp only [codes1, List.mem_cons, List.not_mem_nil, or_false] at hc
  rcases hc with rfl | rfl | rfl | rfl | rfl | rfl | rfl | rfl
  · exact w_c0
  · exact w_c1
  · exact w_c2
  · exact w_c3
  · exact w_c4
  · exact w_c5
  · exact w_c6
  · exact w_c7
set_option maxRecDepth 65536 in
theorem w_t1 : (words1.take 24).all (fun c => isCode c || c.before args0 about1) = true := by decide +kernel
set_option maxRecDepth 65536 in
theorem w_t2 : (words1.drop 24).all (fun c => isCode c || c.before args0 about1) = true := by decide +kernel
theorem w_tables : (allAtoms (Jvm.Cond.code x code maxLocals ret :: tables_1)).before args0 about1 = true := by
  rw [allAtoms_all]
  show words1.all (fun c => c.before args0 about1) = true
  refine all_split ?_ w_codes
  rw [← List.take_append_drop 24 words1, List.all_append, w_t1, w_t2]
  rfl
set_option maxRecDepth 65536 in
theorem w_case : (Jvm.Cond.and given_1 narrow_1).before args0 about1 = true := by decide +kernel
theorem w_applies : (headSpec (Jvm.Cond.code x code maxLocals ret :: tables_1) room_1).applies x e0.platform about1 = true :=
  (Spec.applies_iff w_frames).mpr ⟨w_running, w_runnable, w_alone, w_named, w_hears, w_ripe, w_room, w_tables⟩
theorem atStart : AtStart classFile x code maxLocals ret World_1 tables_1 room_1 Calls_1 rest_1 Pre_1 launch0 p0 e0 about1 theMethod args0 below0 :=
  ⟨lists_1, trivial, launch0.admits_env _ _ _, launch0.least_env, fairChoices_fair.cas, fairChoices_fair.clock, w_frames, w_args, w_heap, w_applies, trivial, trivial, w_case⟩
end start1
theorem witness_1 : WitnessClaimed_1 := ⟨start1.p0, start1.e0, start1.about1, start1.theMethod, start1.args0, start1.below0, start1.atStart⟩
end Jvm.Pilot.@@N@@
