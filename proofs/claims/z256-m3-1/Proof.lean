import JvmDerived
import JvmDerived.Pilot.@@N@@Statement
import JvmDerived.Pilot.@@N@@Code
set_option linter.unusedVariables false
set_option linter.unusedSimpArgs false
namespace Jvm.RoadKit
open Sem ClassFile Op Lib Jvm.Stand Jvm.Free Jvm.LawKit
section Own
variable {p : Program} {l : Launch} {e : Env} {R : Room} {s : State} {m : MethodId} {args : Array Value} {below : List Frame} {meth : Method} {c : Code} {T : State} {locs : List Loc} {cells slots : Nat} {Z : State} {a0 : Array Value} {h h' : Heap}
theorem retI (X : Stand p l e R s m args below meth c T locs cells slots) (hx : p.tables.exec = Jvm.exec) {pc : Nat} {Ls : Array Slot} {z : Int32} {rest : List Value} (hret : meth.sig.returnType = some .int) (hd : decode c.code pc = .ok (.ireturn, 1)) {fs : List Frame}
    (hl : ∀ (f : JFrame) (acts : List Action), f.method = m → f.locked = none → f.entered = [] → (doReturn e (T.setTop f) acts (some (.int z))).1 = T.setFrames fs) : Steps p.tables e below (T.setTop (mkF m pc Ls (.int z :: rest))) (T.setFrames fs) := by
  have hm' : T.vm.method? m = some meth := X.method'
  have hn : narrow .int (.int z) = .int z := rfl
  show Steps p.tables e below (T.setTop { method := m, pc := pc, locals := Ls, stack := _ :: rest, locked := none }) _
  jvm_step X.here [X.here.top, hx, hd, hm', hret, hn]
  first | (intro acts; rw [hl _ acts rfl rfl rfl]) | rw [hl _ _ rfl rfl rfl]
  exact Steps.refl _
/-- from this frame the walk comes to an end that says G -/
def Rch (p : Program) (e : Env) (below : List Frame) (G : State → Outcome → Prop) (T : State) (g : JFrame) : Prop :=
  ∃ s₂ o, Steps p.tables e below (T.setTop g) s₂ ∧ s₂.status = .running ∧ Ended s₂ below o ∧ G s₂ o
variable {G : State → Outcome → Prop} {T' : State} {g g' : JFrame}
theorem Rch.go (st : ∀ t, Steps p.tables e below (T'.setTop g') t → Steps p.tables e below (T.setTop g) t) (k : Rch p e below G T' g') : Rch p e below G T g := by
  obtain ⟨s2, o, a, b⟩ := k
  exact ⟨s2, o, st _ a, b⟩
theorem Rch.jump (st : Steps p.tables e below (T.setTop g) (T'.setTop g')) (k : Rch p e below G T' g') : Rch p e below G T g := Rch.go (fun _ q => st.trans q) k
theorem Rch.entry {n : Nat} (q : entryFrame m args n = g) (k : Rch p e below G T g) : ∃ s₂ o, Steps p.tables e below (T.setTop (entryFrame m args n)) s₂ ∧ s₂.status = .running ∧ Ended s₂ below o ∧ G s₂ o := by rw [q]; exact k
/-- what a contract says of its end -/
def EndQ (Q : Option Value → Heap → List Loc → Prop) (U : State) (kc ks : Nat) (U' : State) (o : Outcome) : Prop := ∃ v L, o = .returned v ∧ Q v U'.heap L ∧ FrameEnd U o U' L kc ks
variable {Q : Option Value → Heap → List Loc → Prop} {kc ks : Nat} {pc : Nat} {Ls : Array Slot} {rest : List Value}
theorem Rch.retI (X : Stand p l e R s m args below meth c T locs cells slots) (hx : p.tables.exec = Jvm.exec) (hlk : meth.locks = false) {z : Int32} (hret : meth.sig.returnType = some .int) (hd : decode c.code pc = .ok (.ireturn, 1)) (hc : cells ≤ kc) (hs : slots ≤ ks) (hQ : Q (some (.int z)) T.heap locs) : Rch p e below (EndQ Q s kc ks) T (mkF m pc Ls (.int z :: rest)) := by
  obtain ⟨fs, hr, hrun, hended, hW, hsame⟩ := X.leave (v := some (.int z)) (fun h => by rw [hret] at h; cases h)
  exact ⟨_, _, Jvm.RoadKit.retI X hx hret hd hr, hrun, hended, _, _, rfl, hQ, ⟨_, rfl⟩, hW, hsame.mono hc hs⟩
theorem Rch.retZ (X : Stand p l e R s m args below meth c T locs cells slots) (hx : p.tables.exec = Jvm.exec) (hlk : meth.locks = false) {z : Int32} (hret : meth.sig.returnType = some .boolean) (hd : decode c.code pc = .ok (.ireturn, 1)) (hc : cells ≤ kc) (hs : slots ≤ ks) (hQ : Q (some (.int (nar .boolean z))) T.heap locs) : Rch p e below (EndQ Q s kc ks) T (mkF m pc Ls (.int z :: rest)) := by
  obtain ⟨fs, hr, hrun, hended, hW, hsame⟩ := X.leave (v := some (.int (nar .boolean z))) (fun h => by rw [hret] at h; cases h)
  exact ⟨_, _, retN X hx hret (Or.inl rfl) hd hr, hrun, hended, _, _, rfl, hQ, ⟨_, rfl⟩, hW, hsame.mono hc hs⟩
theorem Rch.retJ (X : Stand p l e R s m args below meth c T locs cells slots) (hx : p.tables.exec = Jvm.exec) (hlk : meth.locks = false) {z : Int64} (hret : meth.sig.returnType = some .long) (hd : decode c.code pc = .ok (.lreturn, 1)) (hc : cells ≤ kc) (hs : slots ≤ ks) (hQ : Q (some (.long z)) T.heap locs) : Rch p e below (EndQ Q s kc ks) T (mkF m pc Ls (.long z :: rest)) := by
  obtain ⟨fs, hr, hrun, hended, hW, hsame⟩ := X.leave (v := some (.long z)) (fun h => by rw [hret] at h; cases h)
  exact ⟨_, _, retOut X hx hret rfl (Or.inr (Or.inl ⟨rfl, rfl, _, rfl⟩)) hd hr, hrun, hended, _, _, rfl, hQ, ⟨_, rfl⟩, hW, hsame.mono hc hs⟩
theorem Rch.retA (X : Stand p l e R s m args below meth c T locs cells slots) (hx : p.tables.exec = Jvm.exec) (hlk : meth.locks = false) {a : Addr} {t : FieldType} (ht : t.isReference = true) (hn : narrow t (.ref a) = .ref a) (hret : meth.sig.returnType = some t) (hd : decode c.code pc = .ok (.areturn, 1)) (hc : cells ≤ kc) (hs : slots ≤ ks) (hQ : Q (some (.ref a)) T.heap locs) : Rch p e below (EndQ Q s kc ks) T (mkF m pc Ls (.ref a :: rest)) := by
  obtain ⟨fs, hr, hrun, hended, hW, hsame⟩ := X.leave (v := some (.ref a)) (fun h => by rw [hret] at h; cases h)
  exact ⟨_, _, retOut X hx hret hn (Or.inr (Or.inr (Or.inr (Or.inr ⟨rfl, ht, rfl⟩)))) hd hr, hrun, hended, _, _, rfl, hQ, ⟨_, rfl⟩, hW, hsame.mono hc hs⟩
theorem Rch.retV (X : Stand p l e R s m args below meth c T locs cells slots) (hx : p.tables.exec = Jvm.exec) (hlk : meth.locks = false) (hret : meth.sig.returnType = none) (hd : decode c.code pc = .ok (.return_, 1)) (hc : cells ≤ kc) (hs : slots ≤ ks) (hQ : Q none T.heap locs) : Rch p e below (EndQ Q s kc ks) T (mkF m pc Ls []) := by
  obtain ⟨fs, hr, hrun, hended, hW, hsame⟩ := X.leave (v := none) (fun _ => rfl)
  exact ⟨_, _, X.returnOut hx hret hd hr, hrun, hended, _, _, rfl, hQ, ⟨_, rfl⟩, hW, hsame.mono hc hs⟩
variable {a : Addr} {k : ClassId} {z : Int32} {vs : List Value} {dv : Value} {ty : FieldType}
theorem ldB (X : Stand p l e R s m args below meth c T locs cells slots) (hx : p.tables.exec = Jvm.exec) (hZ : Z.Warmed39 s.vm) (eT : T.heap = h) (V : Arv Z h a k .byte z vs dv) {j : Int32} {v : Value} (hj : ¬ j < 0 ∧ j < z) (hv : vs.getD j.toNatClampNeg dv = v) (hg : g.method = m) (hs : g.stack = .int j :: .ref a :: rest) (hd : decode c.code g.pc = .ok (.baload, 1)) (target : State)
    (hr : Steps p.tables e below (T.setTop { g with pc := g.pc + 1, stack := v :: rest }) target) : Steps p.tables e below (T.setTop g) target := by
  obtain ⟨c', A, -, S, M, H, -⟩ := V
  exact X.baloadBytes hx (by rw [eT]; exact A.1) (State.isArrayOf_alike hZ.alike A.2.1) A.2.2 (inb_of S hj) (H.at (inb_of S hj) hv) hg hs hd target hr
theorem ldI (X : Stand p l e R s m args below meth c T locs cells slots) (hx : p.tables.exec = Jvm.exec) (hZ : Z.Warmed39 s.vm) (eT : T.heap = h) (V : Arv Z h a k .int z vs dv) {j : Int32} {v : Value} (hj : ¬ j < 0 ∧ j < z) (hv : vs.getD j.toNatClampNeg dv = v) (hg : g.method = m) (hs : g.stack = .int j :: .ref a :: rest) (hd : decode c.code g.pc = .ok (.iaload, 1)) (target : State)
    (hr : Steps p.tables e below (T.setTop { g with pc := g.pc + 1, stack := v :: rest }) target) : Steps p.tables e below (T.setTop g) target := by
  obtain ⟨c', A, -, S, M, H, -⟩ := V
  exact X.iaload hx (by rw [eT]; exact A.1) (State.isArrayOf_alike hZ.alike A.2.1) A.2.2 (inb_of S hj) (H.at (inb_of S hj) hv) hg hs hd target hr
theorem ldJ (X : Stand p l e R s m args below meth c T locs cells slots) (hx : p.tables.exec = Jvm.exec) (hZ : Z.Warmed39 s.vm) (eT : T.heap = h) (V : Arv Z h a k .long z vs dv) {j : Int32} {v : Value} (hj : ¬ j < 0 ∧ j < z) (hv : vs.getD j.toNatClampNeg dv = v) (hg : g.method = m) (hs : g.stack = .int j :: .ref a :: rest) (hd : decode c.code g.pc = .ok (.laload, 1)) (target : State)
    (hr : Steps p.tables e below (T.setTop { g with pc := g.pc + 1, stack := v :: rest }) target) : Steps p.tables e below (T.setTop g) target := by
  obtain ⟨c', A, -, S, M, H, -⟩ := V
  exact X.laload hx (by rw [eT]; exact A.1) (State.isArrayOf_alike hZ.alike A.2.1) A.2.2 (inb_of S hj) (H.at (inb_of S hj) hv) hg hs hd target hr
theorem lenA (X : Stand p l e R s m args below meth c T locs cells slots) (hx : p.tables.exec = Jvm.exec) (hZ : Z.Warmed39 s.vm) (eT : T.heap = h) (V : Arv Z h a k ty z vs dv) (hg : g.method = m) (hs : g.stack = .ref a :: rest) (hd : decode c.code g.pc = .ok (.arraylength, 1)) (target : State)
    (hr : Steps p.tables e below (T.setTop { g with pc := g.pc + 1, stack := .int z :: rest }) target) : Steps p.tables e below (T.setTop g) target := by
  obtain ⟨c', A, -, S, M, H, -⟩ := V
  exact X.arraylength hx (by rw [eT]; exact A.1) (State.isArrayOf_alike hZ.alike A.2.1) hg hs hd target (by rw [len_of S M]; exact hr)
theorem sdB (X : Stand p l e R s m args below meth c T locs cells slots) (hx : p.tables.exec = Jvm.exec) (hZ : Z.Warmed39 s.vm) (eT : T.heap = h) (V : Arv Z h a k .byte z vs dv) {j x : Int32} (hj : ¬ j < 0 ∧ j < z) (i : Nat) (hi : j.toNatClampNeg = i) (hl : i < vs.length) (hg : g.method = m) (hs : g.stack = .int x :: .int j :: .ref a :: rest) (hd : decode c.code g.pc = .ok (.bastore, 1)) :
    ∃ T' h', Stand p l e R s m args below meth c T' (locs ++ [⟨a, j.toNatClampNeg⟩]) cells slots ∧ T'.heap = h' ∧ Wr h h' a j.toNatClampNeg (.int (nar .byte x)) ∧ Arv Z h' a k .byte z (vs.set i (.int (nar .byte x))) dv ∧ ∀ target, Steps p.tables e below (T'.setTop { g with pc := g.pc + 1, stack := rest }) target → Steps p.tables e below (T.setTop g) target := by
  obtain ⟨c', A, q1, S, M, H, F⟩ := V
  obtain ⟨T', h', X', e', W, st⟩ := stB X hx hZ eT A (inb_of S hj) hg hs hd
  exact ⟨T', h', X', e', W, Arv.set A q1 S M H F (fits_nar_byte x) W i hi hl, st⟩
theorem sdI (X : Stand p l e R s m args below meth c T locs cells slots) (hx : p.tables.exec = Jvm.exec) (hZ : Z.Warmed39 s.vm) (eT : T.heap = h) (V : Arv Z h a k .int z vs dv) {j x : Int32} (hj : ¬ j < 0 ∧ j < z) (i : Nat) (hi : j.toNatClampNeg = i) (hl : i < vs.length) (hg : g.method = m) (hs : g.stack = .int x :: .int j :: .ref a :: rest) (hd : decode c.code g.pc = .ok (.iastore, 1)) :
    ∃ T' h', Stand p l e R s m args below meth c T' (locs ++ [⟨a, j.toNatClampNeg⟩]) cells slots ∧ T'.heap = h' ∧ Wr h h' a j.toNatClampNeg (.int x) ∧ Arv Z h' a k .int z (vs.set i (.int x)) dv ∧ ∀ target, Steps p.tables e below (T'.setTop { g with pc := g.pc + 1, stack := rest }) target → Steps p.tables e below (T.setTop g) target := by
  obtain ⟨c', A, q1, S, M, H, F⟩ := V
  obtain ⟨T', h', X', e', W, st⟩ := stI X hx hZ eT A (inb_of S hj) hg hs hd
  exact ⟨T', h', X', e', W, Arv.set A q1 S M H F rfl W i hi hl, st⟩
theorem sdJ (X : Stand p l e R s m args below meth c T locs cells slots) (hx : p.tables.exec = Jvm.exec) (hZ : Z.Warmed39 s.vm) (eT : T.heap = h) (V : Arv Z h a k .long z vs dv) {j : Int32} {x : Int64} (hj : ¬ j < 0 ∧ j < z) (i : Nat) (hi : j.toNatClampNeg = i) (hl : i < vs.length) (hg : g.method = m) (hs : g.stack = .long x :: .int j :: .ref a :: rest) (hd : decode c.code g.pc = .ok (.lastore, 1)) :
    ∃ T' h', Stand p l e R s m args below meth c T' (locs ++ [⟨a, j.toNatClampNeg⟩]) cells slots ∧ T'.heap = h' ∧ Wr h h' a j.toNatClampNeg (.long x) ∧ Arv Z h' a k .long z (vs.set i (.long x)) dv ∧ ∀ target, Steps p.tables e below (T'.setTop { g with pc := g.pc + 1, stack := rest }) target → Steps p.tables e below (T.setTop g) target := by
  obtain ⟨c', A, q1, S, M, H, F⟩ := V
  obtain ⟨T', h', X', e', W, st⟩ := stJ X hx hZ eT A (inb_of S hj) hg hs hd
  exact ⟨T', h', X', e', W, Arv.set A q1 S M H F rfl W i hi hl, st⟩
theorem naw (X : Stand p l e R s m args below meth c T locs cells slots) (hx : p.tables.exec = Jvm.exec) (hZ : Z.Warmed39 s.vm) {aty : ArrayType} (w : (Cond.arrayClass (newarray.typeOf aty)).before a0 Z = true) (eT : T.heap = h) (hg : g.method = m) (hd : decode c.code g.pc = .ok (.newarray aty, 2)) {n : Int32} (hs : g.stack = .int n :: rest)
    (hn : ¬ n < 0) (i : Nat) {cap : Nat} (hcap : n.toNatClampNeg ≤ cap) (hb : cap * 8 ≤ 536870912) (hc : cells + 1 ≤ R.cells) (hl : slots + cap ≤ R.slots) :
    ∃ T' h' cA, Stand p l e R s m args below meth c T' locs (cells + 1) (slots + cap) ∧ T'.heap = h' ∧ Ext h h' ∧ Arv Z h' h.size cA (newarray.typeOf aty) n (List.replicate i (defaultValue (newarray.typeOf aty))) (defaultValue (newarray.typeOf aty)) ∧
      ∀ target, Steps p.tables e below (T'.setTop { g with pc := g.pc + 2, stack := .ref h.size :: rest }) target → Steps p.tables e below (T.setTop g) target := by
  obtain ⟨T', h', cA, X', e', E, A, st⟩ := newP X hx hZ w eT hg hd hs hn hcap hb hc hl
  exact ⟨T', h', cA, X', e', E, (Arv.new A hn).pad (fun q => (pad_rep [] _ i q)), st⟩
end Own
end Jvm.RoadKit
namespace Jvm.Pilot.@@N@@
open Jvm Jvm.ClassFile Sem Op Lib Jvm.Free Jvm.Stand Jvm.LawKit Jvm.RoadKit Bundle Jvm.Pilot.@@N@@.Jvm.D
theorem own_rem5 (x : Int32) : ((x &&& (2147483647 : Int32)) % (5 : Int32)) = 0 ∨ ((x &&& (2147483647 : Int32)) % (5 : Int32)) = 1 ∨ ((x &&& (2147483647 : Int32)) % (5 : Int32)) = 2 ∨ ((x &&& (2147483647 : Int32)) % (5 : Int32)) = 3 ∨ ((x &&& (2147483647 : Int32)) % (5 : Int32)) = 4 := by
  have h := c_and x 2147483647 (by decide)
  have g := (c_irem (x &&& 2147483647) 5 5 rfl).1 h.1
  have k0 : (0 : Int32).toInt = 0 := rfl
  have k1 : (1 : Int32).toInt = 1 := rfl
  have k2 : (2 : Int32).toInt = 2 := rfl
  have k3 : (3 : Int32).toInt = 3 := rfl
  have k4 : (4 : Int32).toInt = 4 := rfl
  simp only [← Int32.toInt_inj, k0, k1, k2, k3, k4]
  omega
theorem own_pn0 : plainFor (⟨"com/example/heverlee/heverlee/engine/Factor", "entries", "([I)J"⟩ : MethodName) = true := by first | exact plainFor_of_name (by first | (simp [plainName, overriddenIn]; done) | decide +kernel) | decide +kernel
theorem own_pd0 : parseMethodDescriptor "([I)J" = some ⟨[(.array .int)], some .long⟩ := by decide +kernel
theorem d1_0 : decode prog_33_method_18_code 0 = .ok (.lconst 1, 1) := by decide +kernel
theorem d1_1 : decode prog_33_method_18_code 1 = .ok (.lstore_n 1, 1) := by decide +kernel
theorem d1_2 : decode prog_33_method_18_code 2 = .ok (.aload_n 0, 1) := by decide +kernel
theorem d1_3 : decode prog_33_method_18_code 3 = .ok (.astore_n 3, 1) := by decide +kernel
theorem d1_4 : decode prog_33_method_18_code 4 = .ok (.aload_n 3, 1) := by decide +kernel
theorem d1_5 : decode prog_33_method_18_code 5 = .ok (.arraylength, 1) := by decide +kernel
theorem d1_6 : decode prog_33_method_18_code 6 = .ok (.istore 4, 2) := by decide +kernel
theorem d1_8 : decode prog_33_method_18_code 8 = .ok (.iconst 0, 1) := by decide +kernel
theorem d1_9 : decode prog_33_method_18_code 9 = .ok (.istore 5, 2) := by decide +kernel
theorem d1_11 : decode prog_33_method_18_code 11 = .ok (.iload 5, 2) := by decide +kernel
theorem d1_13 : decode prog_33_method_18_code 13 = .ok (.iload 4, 2) := by decide +kernel
theorem d1_15 : decode prog_33_method_18_code 15 = .ok (.if_icmp .ge 21, 3) := by decide +kernel
theorem d1_18 : decode prog_33_method_18_code 18 = .ok (.aload_n 3, 1) := by decide +kernel
theorem d1_19 : decode prog_33_method_18_code 19 = .ok (.iload 5, 2) := by decide +kernel
theorem d1_21 : decode prog_33_method_18_code 21 = .ok (.iaload, 1) := by decide +kernel
theorem d1_22 : decode prog_33_method_18_code 22 = .ok (.istore 6, 2) := by decide +kernel
theorem d1_24 : decode prog_33_method_18_code 24 = .ok (.lload_n 1, 1) := by decide +kernel
theorem d1_25 : decode prog_33_method_18_code 25 = .ok (.iload 6, 2) := by decide +kernel
theorem d1_27 : decode prog_33_method_18_code 27 = .ok (.i2l, 1) := by decide +kernel
theorem d1_28 : decode prog_33_method_18_code 28 = .ok (.lmul, 1) := by decide +kernel
theorem d1_29 : decode prog_33_method_18_code 29 = .ok (.lstore_n 1, 1) := by decide +kernel
theorem d1_30 : decode prog_33_method_18_code 30 = .ok (.iinc 5 1, 3) := by decide +kernel
theorem d1_33 : decode prog_33_method_18_code 33 = .ok (.goto (-22), 3) := by decide +kernel
theorem d1_36 : decode prog_33_method_18_code 36 = .ok (.lload_n 1, 1) := by decide +kernel
theorem d1_37 : decode prog_33_method_18_code 37 = .ok (.lreturn, 1) := by decide +kernel
theorem own_ef1 (m : MethodId) (x0 : Addr) : entryFrame m #[(.ref x0)] 7 = mkF m 0 #[.val (.ref x0), .unset, .unset, .unset, .unset, .unset, .unset] [] := by first | (simp [entryFrame, mkF, argsToLocals, Value.category, maxLocals]; done) | rfl
def Qrm1_0 (Z : State) (a1 : Addr) (k1 : ClassId)  (h0 : Heap) (n0 : Nat) : Option Value → Heap → List Loc → Prop := fun v h L => v = some (.long (1 : Int64)) ∧ Fr n0 L ∧ h = h0
set_option maxRecDepth 65536 in
set_option maxHeartbeats 40000000 in
theorem rm1_0 (l : Launch) (Z : State) (a0 : Array Value) (hw : ∀ d ∈ tables_1, d.before a0 Z = true) (ws : List Jvm.Cond) (a1 : Addr) (k1 : ClassId)  (h0 : Heap) (n0 : Nat) (Z0 : n0 ≤ h0.size) (V1 : Arv Z h0 a1 k1 .int (0 : Int32) [] (.int 0)) :
    MetFree l (⟨"com/example/heverlee/heverlee/engine/Factor", "entries", "([I)J"⟩ : MethodName) (head1 (Jvm.Cond.code (⟨"com/example/heverlee/heverlee/engine/Factor", "entries", "([I)J"⟩ : MethodName) prog_33_method_18_code 7 (some .long) :: ws) ({ frames := 0, cells := 0, slots := 0, locals := 0 } : Room)) (fun a U => a = #[(.ref a1)] ∧ Z.Warmed39 U.vm ∧ U.heap = h0) (fun _ _ _ _ _ => True) (fun _ U o U' => ∃ v L, o = .returned v ∧ (Qrm1_0 Z a1 k1 h0 n0) v U'.heap L ∧ FrameEnd U o U' L ({ frames := 0, cells := 0, slots := 0, locals := 0 } : Room).cells ({ frames := 0, cells := 0, slots := 0, locals := 0 } : Room).slots) := by
  refine MetFree.of_bodySF own_pn0 hisR ?_
  intro p e s m args below meth c s₁ Bd hml0 hP hK
  obtain ⟨rfl, hZ, hh⟩ := hP
  have hx := Bd.exec
  have hby := Bd.bytes
  have hlk := Bd.notSynchronized
  have hml : c.maxLocals = 7 := hml0
  have hown : s.vm.findClass "com/example/heverlee/heverlee/engine/Factor" = some m.cls := findClass_of_methodNamed Bd.named
  have hnm := (name_of_methodNamed Bd.named Bd.method).1
  have X0 : Stand p l e ({ frames := 0, cells := 0, slots := 0, locals := 0 } : Room) s m #[(.ref a1)] below meth c s₁ [] 0 0 := Stand.of_body Bd
  have e0 : s₁.heap = h0 := by rw [← hh, Bd.state]; rfl
  have N0 := Fr.nil n0
  refine Rch.entry (G := (EndQ (Qrm1_0 Z a1 k1 h0 n0) s ({ frames := 0, cells := 0, slots := 0, locals := 0 } : Room).cells ({ frames := 0, cells := 0, slots := 0, locals := 0 } : Room).slots)) (own_ef1 m a1) ?_
  show Rch p e below _ s₁ (mkF m 0 #[.val (.ref a1), .unset, .unset, .unset, .unset, .unset, .unset] [])
  refine Rch.go (fun _ q => XS.lconst X0.here hx rfl (hb hby d1_0) q) ?_
  show Rch p e below _ s₁ (mkF m 1 #[.val (.ref a1), .unset, .unset, .unset, .unset, .unset, .unset] [(.long (1 : Int64))])
  refine Rch.go (fun _ q => XS.lstoreN X0.here hx rfl (hb hby d1_1) rfl (l' := #[.val (.ref a1), .val (.long (1 : Int64)), .second, .unset, .unset, .unset, .unset]) rfl q) ?_
  show Rch p e below _ s₁ (mkF m 2 #[.val (.ref a1), .val (.long (1 : Int64)), .second, .unset, .unset, .unset, .unset] [])
  refine Rch.go (fun _ q => XS.aloadN X0.here hx rfl (hb hby d1_2) rfl rfl q) ?_
  show Rch p e below _ s₁ (mkF m 3 #[.val (.ref a1), .val (.long (1 : Int64)), .second, .unset, .unset, .unset, .unset] [(.ref a1)])
  refine Rch.go (fun _ q => XS.astoreN X0.here hx rfl (hb hby d1_3) rfl rfl (l' := #[.val (.ref a1), .val (.long (1 : Int64)), .second, .val (.ref a1), .unset, .unset, .unset]) rfl q) ?_
  show Rch p e below _ s₁ (mkF m 4 #[.val (.ref a1), .val (.long (1 : Int64)), .second, .val (.ref a1), .unset, .unset, .unset] [])
  refine Rch.go (fun _ q => XS.aloadN X0.here hx rfl (hb hby d1_4) rfl rfl q) ?_
  show Rch p e below _ s₁ (mkF m 5 #[.val (.ref a1), .val (.long (1 : Int64)), .second, .val (.ref a1), .unset, .unset, .unset] [(.ref a1)])
  refine Rch.go (fun _ q => lenA X0 hx hZ e0 V1 (g := (mkF m 5 #[.val (.ref a1), .val (.long (1 : Int64)), .second, .val (.ref a1), .unset, .unset, .unset] [(.ref a1)])) rfl rfl (hb hby d1_5) _ q) ?_
  show Rch p e below _ s₁ (mkF m 6 #[.val (.ref a1), .val (.long (1 : Int64)), .second, .val (.ref a1), .unset, .unset, .unset] [(.int (0 : Int32))])
  refine Rch.go (fun _ q => XS.istore X0.here hx rfl (hb hby d1_6) rfl (l' := #[.val (.ref a1), .val (.long (1 : Int64)), .second, .val (.ref a1), .val (.int (0 : Int32)), .unset, .unset]) rfl q) ?_
  show Rch p e below _ s₁ (mkF m 8 #[.val (.ref a1), .val (.long (1 : Int64)), .second, .val (.ref a1), .val (.int (0 : Int32)), .unset, .unset] [])
  refine Rch.go (fun _ q => XS.iconst X0.here hx rfl (hb hby d1_8) q) ?_
  show Rch p e below _ s₁ (mkF m 9 #[.val (.ref a1), .val (.long (1 : Int64)), .second, .val (.ref a1), .val (.int (0 : Int32)), .unset, .unset] [(.int (0 : Int32))])
  refine Rch.go (fun _ q => XS.istore X0.here hx rfl (hb hby d1_9) rfl (l' := #[.val (.ref a1), .val (.long (1 : Int64)), .second, .val (.ref a1), .val (.int (0 : Int32)), .val (.int (0 : Int32)), .unset]) rfl q) ?_
  show Rch p e below _ s₁ (mkF m 11 #[.val (.ref a1), .val (.long (1 : Int64)), .second, .val (.ref a1), .val (.int (0 : Int32)), .val (.int (0 : Int32)), .unset] [])
  refine Rch.go (fun _ q => XS.iload X0.here hx rfl (hb hby d1_11) rfl  q) ?_
  show Rch p e below _ s₁ (mkF m 13 #[.val (.ref a1), .val (.long (1 : Int64)), .second, .val (.ref a1), .val (.int (0 : Int32)), .val (.int (0 : Int32)), .unset] [(.int (0 : Int32))])
  refine Rch.go (fun _ q => XS.iload X0.here hx rfl (hb hby d1_13) rfl  q) ?_
  show Rch p e below _ s₁ (mkF m 15 #[.val (.ref a1), .val (.long (1 : Int64)), .second, .val (.ref a1), .val (.int (0 : Int32)), .val (.int (0 : Int32)), .unset] [(.int (0 : Int32)), (.int (0 : Int32))])
  refine Rch.go (fun _ q => XS.icmpYes X0.here hx rfl (pc0 := 15) (pc' := 36) rfl (hb hby d1_15) rfl (flt (by decide)).2.1 (by decide) (by decide) q) ?_
  show Rch p e below _ s₁ (mkF m 36 #[.val (.ref a1), .val (.long (1 : Int64)), .second, .val (.ref a1), .val (.int (0 : Int32)), .val (.int (0 : Int32)), .unset] [])
  refine Rch.go (fun _ q => XS.lloadN X0.here hx rfl (hb hby d1_36) rfl  q) ?_
  show Rch p e below _ s₁ (mkF m 37 #[.val (.ref a1), .val (.long (1 : Int64)), .second, .val (.ref a1), .val (.int (0 : Int32)), .val (.int (0 : Int32)), .unset] [(.long (1 : Int64))])
  refine Rch.retJ X0 hx hlk Bd.returns (hb hby d1_37) (by decide) (by decide) ?_
  unfold Qrm1_0
  exact ⟨rfl, N0, e0⟩
theorem own_ef2 (m : MethodId) (x0 : Addr) : entryFrame m #[(.ref x0)] 7 = mkF m 0 #[.val (.ref x0), .unset, .unset, .unset, .unset, .unset, .unset] [] := by first | (simp [entryFrame, mkF, argsToLocals, Value.category, maxLocals]; done) | rfl
def Qrm1_1 (Z : State) (a1 : Addr) (k1 : ClassId) (b0 : Int32) (h0 : Heap) (n0 : Nat) : Option Value → Heap → List Loc → Prop := fun v h L => v = some (.long ((1 : Int64) * (b0.toInt64))) ∧ Fr n0 L ∧ h = h0
set_option maxRecDepth 65536 in
set_option maxHeartbeats 40000000 in
theorem rm1_1 (l : Launch) (Z : State) (a0 : Array Value) (hw : ∀ d ∈ tables_1, d.before a0 Z = true) (ws : List Jvm.Cond) (a1 : Addr) (k1 : ClassId) (b0 : Int32) (h0 : Heap) (n0 : Nat) (Z0 : n0 ≤ h0.size) (V1 : Arv Z h0 a1 k1 .int (1 : Int32) [(.int b0)] (.int 0)) :
    MetFree l (⟨"com/example/heverlee/heverlee/engine/Factor", "entries", "([I)J"⟩ : MethodName) (head1 (Jvm.Cond.code (⟨"com/example/heverlee/heverlee/engine/Factor", "entries", "([I)J"⟩ : MethodName) prog_33_method_18_code 7 (some .long) :: ws) ({ frames := 0, cells := 0, slots := 0, locals := 0 } : Room)) (fun a U => a = #[(.ref a1)] ∧ Z.Warmed39 U.vm ∧ U.heap = h0) (fun _ _ _ _ _ => True) (fun _ U o U' => ∃ v L, o = .returned v ∧ (Qrm1_1 Z a1 k1 b0 h0 n0) v U'.heap L ∧ FrameEnd U o U' L ({ frames := 0, cells := 0, slots := 0, locals := 0 } : Room).cells ({ frames := 0, cells := 0, slots := 0, locals := 0 } : Room).slots) := by
  refine MetFree.of_bodySF own_pn0 hisR ?_
  intro p e s m args below meth c s₁ Bd hml0 hP hK
  obtain ⟨rfl, hZ, hh⟩ := hP
  have hx := Bd.exec
  have hby := Bd.bytes
  have hlk := Bd.notSynchronized
  have hml : c.maxLocals = 7 := hml0
  have hown : s.vm.findClass "com/example/heverlee/heverlee/engine/Factor" = some m.cls := findClass_of_methodNamed Bd.named
  have hnm := (name_of_methodNamed Bd.named Bd.method).1
  have X0 : Stand p l e ({ frames := 0, cells := 0, slots := 0, locals := 0 } : Room) s m #[(.ref a1)] below meth c s₁ [] 0 0 := Stand.of_body Bd
  have e0 : s₁.heap = h0 := by rw [← hh, Bd.state]; rfl
  have N0 := Fr.nil n0
  refine Rch.entry (G := (EndQ (Qrm1_1 Z a1 k1 b0 h0 n0) s ({ frames := 0, cells := 0, slots := 0, locals := 0 } : Room).cells ({ frames := 0, cells := 0, slots := 0, locals := 0 } : Room).slots)) (own_ef2 m a1) ?_
  show Rch p e below _ s₁ (mkF m 0 #[.val (.ref a1), .unset, .unset, .unset, .unset, .unset, .unset] [])
  refine Rch.go (fun _ q => XS.lconst X0.here hx rfl (hb hby d1_0) q) ?_
  show Rch p e below _ s₁ (mkF m 1 #[.val (.ref a1), .unset, .unset, .unset, .unset, .unset, .unset] [(.long (1 : Int64))])
  refine Rch.go (fun _ q => XS.lstoreN X0.here hx rfl (hb hby d1_1) rfl (l' := #[.val (.ref a1), .val (.long (1 : Int64)), .second, .unset, .unset, .unset, .unset]) rfl q) ?_
  show Rch p e below _ s₁ (mkF m 2 #[.val (.ref a1), .val (.long (1 : Int64)), .second, .unset, .unset, .unset, .unset] [])
  refine Rch.go (fun _ q => XS.aloadN X0.here hx rfl (hb hby d1_2) rfl rfl q) ?_
  show Rch p e below _ s₁ (mkF m 3 #[.val (.ref a1), .val (.long (1 : Int64)), .second, .unset, .unset, .unset, .unset] [(.ref a1)])
  refine Rch.go (fun _ q => XS.astoreN X0.here hx rfl (hb hby d1_3) rfl rfl (l' := #[.val (.ref a1), .val (.long (1 : Int64)), .second, .val (.ref a1), .unset, .unset, .unset]) rfl q) ?_
  show Rch p e below _ s₁ (mkF m 4 #[.val (.ref a1), .val (.long (1 : Int64)), .second, .val (.ref a1), .unset, .unset, .unset] [])
  refine Rch.go (fun _ q => XS.aloadN X0.here hx rfl (hb hby d1_4) rfl rfl q) ?_
  show Rch p e below _ s₁ (mkF m 5 #[.val (.ref a1), .val (.long (1 : Int64)), .second, .val (.ref a1), .unset, .unset, .unset] [(.ref a1)])
  refine Rch.go (fun _ q => lenA X0 hx hZ e0 V1 (g := (mkF m 5 #[.val (.ref a1), .val (.long (1 : Int64)), .second, .val (.ref a1), .unset, .unset, .unset] [(.ref a1)])) rfl rfl (hb hby d1_5) _ q) ?_
  show Rch p e below _ s₁ (mkF m 6 #[.val (.ref a1), .val (.long (1 : Int64)), .second, .val (.ref a1), .unset, .unset, .unset] [(.int (1 : Int32))])
  refine Rch.go (fun _ q => XS.istore X0.here hx rfl (hb hby d1_6) rfl (l' := #[.val (.ref a1), .val (.long (1 : Int64)), .second, .val (.ref a1), .val (.int (1 : Int32)), .unset, .unset]) rfl q) ?_
  show Rch p e below _ s₁ (mkF m 8 #[.val (.ref a1), .val (.long (1 : Int64)), .second, .val (.ref a1), .val (.int (1 : Int32)), .unset, .unset] [])
  refine Rch.go (fun _ q => XS.iconst X0.here hx rfl (hb hby d1_8) q) ?_
  show Rch p e below _ s₁ (mkF m 9 #[.val (.ref a1), .val (.long (1 : Int64)), .second, .val (.ref a1), .val (.int (1 : Int32)), .unset, .unset] [(.int (0 : Int32))])
  refine Rch.go (fun _ q => XS.istore X0.here hx rfl (hb hby d1_9) rfl (l' := #[.val (.ref a1), .val (.long (1 : Int64)), .second, .val (.ref a1), .val (.int (1 : Int32)), .val (.int (0 : Int32)), .unset]) rfl q) ?_
  show Rch p e below _ s₁ (mkF m 11 #[.val (.ref a1), .val (.long (1 : Int64)), .second, .val (.ref a1), .val (.int (1 : Int32)), .val (.int (0 : Int32)), .unset] [])
  refine Rch.go (fun _ q => XS.iload X0.here hx rfl (hb hby d1_11) rfl  q) ?_
  show Rch p e below _ s₁ (mkF m 13 #[.val (.ref a1), .val (.long (1 : Int64)), .second, .val (.ref a1), .val (.int (1 : Int32)), .val (.int (0 : Int32)), .unset] [(.int (0 : Int32))])
  refine Rch.go (fun _ q => XS.iload X0.here hx rfl (hb hby d1_13) rfl  q) ?_
  show Rch p e below _ s₁ (mkF m 15 #[.val (.ref a1), .val (.long (1 : Int64)), .second, .val (.ref a1), .val (.int (1 : Int32)), .val (.int (0 : Int32)), .unset] [(.int (1 : Int32)), (.int (0 : Int32))])
  refine Rch.go (fun _ q => XS.icmpNo X0.here hx rfl (hb hby d1_15) rfl (tlt (by decide)).2.1 q) ?_
  show Rch p e below _ s₁ (mkF m 18 #[.val (.ref a1), .val (.long (1 : Int64)), .second, .val (.ref a1), .val (.int (1 : Int32)), .val (.int (0 : Int32)), .unset] [])
  refine Rch.go (fun _ q => XS.aloadN X0.here hx rfl (hb hby d1_18) rfl rfl q) ?_
  show Rch p e below _ s₁ (mkF m 19 #[.val (.ref a1), .val (.long (1 : Int64)), .second, .val (.ref a1), .val (.int (1 : Int32)), .val (.int (0 : Int32)), .unset] [(.ref a1)])
  refine Rch.go (fun _ q => XS.iload X0.here hx rfl (hb hby d1_19) rfl  q) ?_
  show Rch p e below _ s₁ (mkF m 21 #[.val (.ref a1), .val (.long (1 : Int64)), .second, .val (.ref a1), .val (.int (1 : Int32)), .val (.int (0 : Int32)), .unset] [(.int (0 : Int32)), (.ref a1)])
  refine Rch.go (fun _ q => ldI X0 hx hZ e0 V1 (v := (.int b0)) (by decide) rfl (g := (mkF m 21 #[.val (.ref a1), .val (.long (1 : Int64)), .second, .val (.ref a1), .val (.int (1 : Int32)), .val (.int (0 : Int32)), .unset] [(.int (0 : Int32)), (.ref a1)])) rfl rfl (hb hby d1_21) _ q) ?_
  show Rch p e below _ s₁ (mkF m 22 #[.val (.ref a1), .val (.long (1 : Int64)), .second, .val (.ref a1), .val (.int (1 : Int32)), .val (.int (0 : Int32)), .unset] [(.int b0)])
  refine Rch.go (fun _ q => XS.istore X0.here hx rfl (hb hby d1_22) rfl (l' := #[.val (.ref a1), .val (.long (1 : Int64)), .second, .val (.ref a1), .val (.int (1 : Int32)), .val (.int (0 : Int32)), .val (.int b0)]) rfl q) ?_
  show Rch p e below _ s₁ (mkF m 24 #[.val (.ref a1), .val (.long (1 : Int64)), .second, .val (.ref a1), .val (.int (1 : Int32)), .val (.int (0 : Int32)), .val (.int b0)] [])
  refine Rch.go (fun _ q => XS.lloadN X0.here hx rfl (hb hby d1_24) rfl  q) ?_
  show Rch p e below _ s₁ (mkF m 25 #[.val (.ref a1), .val (.long (1 : Int64)), .second, .val (.ref a1), .val (.int (1 : Int32)), .val (.int (0 : Int32)), .val (.int b0)] [(.long (1 : Int64))])
  refine Rch.go (fun _ q => XS.iload X0.here hx rfl (hb hby d1_25) rfl  q) ?_
  show Rch p e below _ s₁ (mkF m 27 #[.val (.ref a1), .val (.long (1 : Int64)), .second, .val (.ref a1), .val (.int (1 : Int32)), .val (.int (0 : Int32)), .val (.int b0)] [(.int b0), (.long (1 : Int64))])
  refine Rch.go (fun _ q => XS.i2l X0.here hx rfl (hb hby d1_27) rfl q) ?_
  show Rch p e below _ s₁ (mkF m 28 #[.val (.ref a1), .val (.long (1 : Int64)), .second, .val (.ref a1), .val (.int (1 : Int32)), .val (.int (0 : Int32)), .val (.int b0)] [(.long (b0.toInt64)), (.long (1 : Int64))])
  refine Rch.go (fun _ q => XS.lmul X0.here hx rfl (hb hby d1_28) rfl q) ?_
  show Rch p e below _ s₁ (mkF m 29 #[.val (.ref a1), .val (.long (1 : Int64)), .second, .val (.ref a1), .val (.int (1 : Int32)), .val (.int (0 : Int32)), .val (.int b0)] [(.long ((1 : Int64) * (b0.toInt64)))])
  refine Rch.go (fun _ q => XS.lstoreN X0.here hx rfl (hb hby d1_29) rfl (l' := #[.val (.ref a1), .val (.long ((1 : Int64) * (b0.toInt64))), .second, .val (.ref a1), .val (.int (1 : Int32)), .val (.int (0 : Int32)), .val (.int b0)]) rfl q) ?_
  show Rch p e below _ s₁ (mkF m 30 #[.val (.ref a1), .val (.long ((1 : Int64) * (b0.toInt64))), .second, .val (.ref a1), .val (.int (1 : Int32)), .val (.int (0 : Int32)), .val (.int b0)] [])
  refine Rch.go (fun _ q => XS.iinc X0.here hx rfl (hb hby d1_30) rfl (l' := #[.val (.ref a1), .val (.long ((1 : Int64) * (b0.toInt64))), .second, .val (.ref a1), .val (.int (1 : Int32)), .val (.int (1 : Int32)), .val (.int b0)]) rfl q) ?_
  show Rch p e below _ s₁ (mkF m 33 #[.val (.ref a1), .val (.long ((1 : Int64) * (b0.toInt64))), .second, .val (.ref a1), .val (.int (1 : Int32)), .val (.int (1 : Int32)), .val (.int b0)] [])
  refine Rch.go (fun _ q => XS.goto X0.here hx rfl (pc0 := 33) (pc' := 11) rfl (hb hby d1_33) (by decide) (by decide) q) ?_
  show Rch p e below _ s₁ (mkF m 11 #[.val (.ref a1), .val (.long ((1 : Int64) * (b0.toInt64))), .second, .val (.ref a1), .val (.int (1 : Int32)), .val (.int (1 : Int32)), .val (.int b0)] [])
  refine Rch.go (fun _ q => XS.iload X0.here hx rfl (hb hby d1_11) rfl  q) ?_
  show Rch p e below _ s₁ (mkF m 13 #[.val (.ref a1), .val (.long ((1 : Int64) * (b0.toInt64))), .second, .val (.ref a1), .val (.int (1 : Int32)), .val (.int (1 : Int32)), .val (.int b0)] [(.int (1 : Int32))])
  refine Rch.go (fun _ q => XS.iload X0.here hx rfl (hb hby d1_13) rfl  q) ?_
  show Rch p e below _ s₁ (mkF m 15 #[.val (.ref a1), .val (.long ((1 : Int64) * (b0.toInt64))), .second, .val (.ref a1), .val (.int (1 : Int32)), .val (.int (1 : Int32)), .val (.int b0)] [(.int (1 : Int32)), (.int (1 : Int32))])
  refine Rch.go (fun _ q => XS.icmpYes X0.here hx rfl (pc0 := 15) (pc' := 36) rfl (hb hby d1_15) rfl (flt (by decide)).2.1 (by decide) (by decide) q) ?_
  show Rch p e below _ s₁ (mkF m 36 #[.val (.ref a1), .val (.long ((1 : Int64) * (b0.toInt64))), .second, .val (.ref a1), .val (.int (1 : Int32)), .val (.int (1 : Int32)), .val (.int b0)] [])
  refine Rch.go (fun _ q => XS.lloadN X0.here hx rfl (hb hby d1_36) rfl  q) ?_
  show Rch p e below _ s₁ (mkF m 37 #[.val (.ref a1), .val (.long ((1 : Int64) * (b0.toInt64))), .second, .val (.ref a1), .val (.int (1 : Int32)), .val (.int (1 : Int32)), .val (.int b0)] [(.long ((1 : Int64) * (b0.toInt64)))])
  refine Rch.retJ X0 hx hlk Bd.returns (hb hby d1_37) (by decide) (by decide) ?_
  unfold Qrm1_1
  exact ⟨rfl, N0, e0⟩
theorem own_ef3 (m : MethodId) (x0 : Addr) : entryFrame m #[(.ref x0)] 7 = mkF m 0 #[.val (.ref x0), .unset, .unset, .unset, .unset, .unset, .unset] [] := by first | (simp [entryFrame, mkF, argsToLocals, Value.category, maxLocals]; done) | rfl
def Qrm1_2 (Z : State) (a1 : Addr) (k1 : ClassId) (b0 b1 : Int32) (h0 : Heap) (n0 : Nat) : Option Value → Heap → List Loc → Prop := fun v h L => v = some (.long (((1 : Int64) * (b0.toInt64)) * (b1.toInt64))) ∧ Fr n0 L ∧ h = h0
set_option maxRecDepth 65536 in
set_option maxHeartbeats 40000000 in
theorem rm1_2 (l : Launch) (Z : State) (a0 : Array Value) (hw : ∀ d ∈ tables_1, d.before a0 Z = true) (ws : List Jvm.Cond) (a1 : Addr) (k1 : ClassId) (b0 b1 : Int32) (h0 : Heap) (n0 : Nat) (Z0 : n0 ≤ h0.size) (V1 : Arv Z h0 a1 k1 .int (2 : Int32) [(.int b0), (.int b1)] (.int 0)) :
    MetFree l (⟨"com/example/heverlee/heverlee/engine/Factor", "entries", "([I)J"⟩ : MethodName) (head1 (Jvm.Cond.code (⟨"com/example/heverlee/heverlee/engine/Factor", "entries", "([I)J"⟩ : MethodName) prog_33_method_18_code 7 (some .long) :: ws) ({ frames := 0, cells := 0, slots := 0, locals := 0 } : Room)) (fun a U => a = #[(.ref a1)] ∧ Z.Warmed39 U.vm ∧ U.heap = h0) (fun _ _ _ _ _ => True) (fun _ U o U' => ∃ v L, o = .returned v ∧ (Qrm1_2 Z a1 k1 b0 b1 h0 n0) v U'.heap L ∧ FrameEnd U o U' L ({ frames := 0, cells := 0, slots := 0, locals := 0 } : Room).cells ({ frames := 0, cells := 0, slots := 0, locals := 0 } : Room).slots) := by
  refine MetFree.of_bodySF own_pn0 hisR ?_
  intro p e s m args below meth c s₁ Bd hml0 hP hK
  obtain ⟨rfl, hZ, hh⟩ := hP
  have hx := Bd.exec
  have hby := Bd.bytes
  have hlk := Bd.notSynchronized
  have hml : c.maxLocals = 7 := hml0
  have hown : s.vm.findClass "com/example/heverlee/heverlee/engine/Factor" = some m.cls := findClass_of_methodNamed Bd.named
  have hnm := (name_of_methodNamed Bd.named Bd.method).1
  have X0 : Stand p l e ({ frames := 0, cells := 0, slots := 0, locals := 0 } : Room) s m #[(.ref a1)] below meth c s₁ [] 0 0 := Stand.of_body Bd
  have e0 : s₁.heap = h0 := by rw [← hh, Bd.state]; rfl
  have N0 := Fr.nil n0
  refine Rch.entry (G := (EndQ (Qrm1_2 Z a1 k1 b0 b1 h0 n0) s ({ frames := 0, cells := 0, slots := 0, locals := 0 } : Room).cells ({ frames := 0, cells := 0, slots := 0, locals := 0 } : Room).slots)) (own_ef3 m a1) ?_
  show Rch p e below _ s₁ (mkF m 0 #[.val (.ref a1), .unset, .unset, .unset, .unset, .unset, .unset] [])
  refine Rch.go (fun _ q => XS.lconst X0.here hx rfl (hb hby d1_0) q) ?_
  show Rch p e below _ s₁ (mkF m 1 #[.val (.ref a1), .unset, .unset, .unset, .unset, .unset, .unset] [(.long (1 : Int64))])
  refine Rch.go (fun _ q => XS.lstoreN X0.here hx rfl (hb hby d1_1) rfl (l' := #[.val (.ref a1), .val (.long (1 : Int64)), .second, .unset, .unset, .unset, .unset]) rfl q) ?_
  show Rch p e below _ s₁ (mkF m 2 #[.val (.ref a1), .val (.long (1 : Int64)), .second, .unset, .unset, .unset, .unset] [])
  refine Rch.go (fun _ q => XS.aloadN X0.here hx rfl (hb hby d1_2) rfl rfl q) ?_
  show Rch p e below _ s₁ (mkF m 3 #[.val (.ref a1), .val (.long (1 : Int64)), .second, .unset, .unset, .unset, .unset] [(.ref a1)])
  refine Rch.go (fun _ q => XS.astoreN X0.here hx rfl (hb hby d1_3) rfl rfl (l' := #[.val (.ref a1), .val (.long (1 : Int64)), .second, .val (.ref a1), .unset, .unset, .unset]) rfl q) ?_
  show Rch p e below _ s₁ (mkF m 4 #[.val (.ref a1), .val (.long (1 : Int64)), .second, .val (.ref a1), .unset, .unset, .unset] [])
  refine Rch.go (fun _ q => XS.aloadN X0.here hx rfl (hb hby d1_4) rfl rfl q) ?_
  show Rch p e below _ s₁ (mkF m 5 #[.val (.ref a1), .val (.long (1 : Int64)), .second, .val (.ref a1), .unset, .unset, .unset] [(.ref a1)])
  refine Rch.go (fun _ q => lenA X0 hx hZ e0 V1 (g := (mkF m 5 #[.val (.ref a1), .val (.long (1 : Int64)), .second, .val (.ref a1), .unset, .unset, .unset] [(.ref a1)])) rfl rfl (hb hby d1_5) _ q) ?_
  show Rch p e below _ s₁ (mkF m 6 #[.val (.ref a1), .val (.long (1 : Int64)), .second, .val (.ref a1), .unset, .unset, .unset] [(.int (2 : Int32))])
  refine Rch.go (fun _ q => XS.istore X0.here hx rfl (hb hby d1_6) rfl (l' := #[.val (.ref a1), .val (.long (1 : Int64)), .second, .val (.ref a1), .val (.int (2 : Int32)), .unset, .unset]) rfl q) ?_
  show Rch p e below _ s₁ (mkF m 8 #[.val (.ref a1), .val (.long (1 : Int64)), .second, .val (.ref a1), .val (.int (2 : Int32)), .unset, .unset] [])
  refine Rch.go (fun _ q => XS.iconst X0.here hx rfl (hb hby d1_8) q) ?_
  show Rch p e below _ s₁ (mkF m 9 #[.val (.ref a1), .val (.long (1 : Int64)), .second, .val (.ref a1), .val (.int (2 : Int32)), .unset, .unset] [(.int (0 : Int32))])
  refine Rch.go (fun _ q => XS.istore X0.here hx rfl (hb hby d1_9) rfl (l' := #[.val (.ref a1), .val (.long (1 : Int64)), .second, .val (.ref a1), .val (.int (2 : Int32)), .val (.int (0 : Int32)), .unset]) rfl q) ?_
  show Rch p e below _ s₁ (mkF m 11 #[.val (.ref a1), .val (.long (1 : Int64)), .second, .val (.ref a1), .val (.int (2 : Int32)), .val (.int (0 : Int32)), .unset] [])
  refine Rch.go (fun _ q => XS.iload X0.here hx rfl (hb hby d1_11) rfl  q) ?_
  show Rch p e below _ s₁ (mkF m 13 #[.val (.ref a1), .val (.long (1 : Int64)), .second, .val (.ref a1), .val (.int (2 : Int32)), .val (.int (0 : Int32)), .unset] [(.int (0 : Int32))])
  refine Rch.go (fun _ q => XS.iload X0.here hx rfl (hb hby d1_13) rfl  q) ?_
  show Rch p e below _ s₁ (mkF m 15 #[.val (.ref a1), .val (.long (1 : Int64)), .second, .val (.ref a1), .val (.int (2 : Int32)), .val (.int (0 : Int32)), .unset] [(.int (2 : Int32)), (.int (0 : Int32))])
  refine Rch.go (fun _ q => XS.icmpNo X0.here hx rfl (hb hby d1_15) rfl (tlt (by decide)).2.1 q) ?_
  show Rch p e below _ s₁ (mkF m 18 #[.val (.ref a1), .val (.long (1 : Int64)), .second, .val (.ref a1), .val (.int (2 : Int32)), .val (.int (0 : Int32)), .unset] [])
  refine Rch.go (fun _ q => XS.aloadN X0.here hx rfl (hb hby d1_18) rfl rfl q) ?_
  show Rch p e below _ s₁ (mkF m 19 #[.val (.ref a1), .val (.long (1 : Int64)), .second, .val (.ref a1), .val (.int (2 : Int32)), .val (.int (0 : Int32)), .unset] [(.ref a1)])
  refine Rch.go (fun _ q => XS.iload X0.here hx rfl (hb hby d1_19) rfl  q) ?_
  show Rch p e below _ s₁ (mkF m 21 #[.val (.ref a1), .val (.long (1 : Int64)), .second, .val (.ref a1), .val (.int (2 : Int32)), .val (.int (0 : Int32)), .unset] [(.int (0 : Int32)), (.ref a1)])
  refine Rch.go (fun _ q => ldI X0 hx hZ e0 V1 (v := (.int b0)) (by decide) rfl (g := (mkF m 21 #[.val (.ref a1), .val (.long (1 : Int64)), .second, .val (.ref a1), .val (.int (2 : Int32)), .val (.int (0 : Int32)), .unset] [(.int (0 : Int32)), (.ref a1)])) rfl rfl (hb hby d1_21) _ q) ?_
  show Rch p e below _ s₁ (mkF m 22 #[.val (.ref a1), .val (.long (1 : Int64)), .second, .val (.ref a1), .val (.int (2 : Int32)), .val (.int (0 : Int32)), .unset] [(.int b0)])
  refine Rch.go (fun _ q => XS.istore X0.here hx rfl (hb hby d1_22) rfl (l' := #[.val (.ref a1), .val (.long (1 : Int64)), .second, .val (.ref a1), .val (.int (2 : Int32)), .val (.int (0 : Int32)), .val (.int b0)]) rfl q) ?_
  show Rch p e below _ s₁ (mkF m 24 #[.val (.ref a1), .val (.long (1 : Int64)), .second, .val (.ref a1), .val (.int (2 : Int32)), .val (.int (0 : Int32)), .val (.int b0)] [])
  refine Rch.go (fun _ q => XS.lloadN X0.here hx rfl (hb hby d1_24) rfl  q) ?_
  show Rch p e below _ s₁ (mkF m 25 #[.val (.ref a1), .val (.long (1 : Int64)), .second, .val (.ref a1), .val (.int (2 : Int32)), .val (.int (0 : Int32)), .val (.int b0)] [(.long (1 : Int64))])
  refine Rch.go (fun _ q => XS.iload X0.here hx rfl (hb hby d1_25) rfl  q) ?_
  show Rch p e below _ s₁ (mkF m 27 #[.val (.ref a1), .val (.long (1 : Int64)), .second, .val (.ref a1), .val (.int (2 : Int32)), .val (.int (0 : Int32)), .val (.int b0)] [(.int b0), (.long (1 : Int64))])
  refine Rch.go (fun _ q => XS.i2l X0.here hx rfl (hb hby d1_27) rfl q) ?_
  show Rch p e below _ s₁ (mkF m 28 #[.val (.ref a1), .val (.long (1 : Int64)), .second, .val (.ref a1), .val (.int (2 : Int32)), .val (.int (0 : Int32)), .val (.int b0)] [(.long (b0.toInt64)), (.long (1 : Int64))])
  refine Rch.go (fun _ q => XS.lmul X0.here hx rfl (hb hby d1_28) rfl q) ?_
  show Rch p e below _ s₁ (mkF m 29 #[.val (.ref a1), .val (.long (1 : Int64)), .second, .val (.ref a1), .val (.int (2 : Int32)), .val (.int (0 : Int32)), .val (.int b0)] [(.long ((1 : Int64) * (b0.toInt64)))])
  refine Rch.go (fun _ q => XS.lstoreN X0.here hx rfl (hb hby d1_29) rfl (l' := #[.val (.ref a1), .val (.long ((1 : Int64) * (b0.toInt64))), .second, .val (.ref a1), .val (.int (2 : Int32)), .val (.int (0 : Int32)), .val (.int b0)]) rfl q) ?_
  show Rch p e below _ s₁ (mkF m 30 #[.val (.ref a1), .val (.long ((1 : Int64) * (b0.toInt64))), .second, .val (.ref a1), .val (.int (2 : Int32)), .val (.int (0 : Int32)), .val (.int b0)] [])
  refine Rch.go (fun _ q => XS.iinc X0.here hx rfl (hb hby d1_30) rfl (l' := #[.val (.ref a1), .val (.long ((1 : Int64) * (b0.toInt64))), .second, .val (.ref a1), .val (.int (2 : Int32)), .val (.int (1 : Int32)), .val (.int b0)]) rfl q) ?_
  show Rch p e below _ s₁ (mkF m 33 #[.val (.ref a1), .val (.long ((1 : Int64) * (b0.toInt64))), .second, .val (.ref a1), .val (.int (2 : Int32)), .val (.int (1 : Int32)), .val (.int b0)] [])
  refine Rch.go (fun _ q => XS.goto X0.here hx rfl (pc0 := 33) (pc' := 11) rfl (hb hby d1_33) (by decide) (by decide) q) ?_
  show Rch p e below _ s₁ (mkF m 11 #[.val (.ref a1), .val (.long ((1 : Int64) * (b0.toInt64))), .second, .val (.ref a1), .val (.int (2 : Int32)), .val (.int (1 : Int32)), .val (.int b0)] [])
  refine Rch.go (fun _ q => XS.iload X0.here hx rfl (hb hby d1_11) rfl  q) ?_
  show Rch p e below _ s₁ (mkF m 13 #[.val (.ref a1), .val (.long ((1 : Int64) * (b0.toInt64))), .second, .val (.ref a1), .val (.int (2 : Int32)), .val (.int (1 : Int32)), .val (.int b0)] [(.int (1 : Int32))])
  refine Rch.go (fun _ q => XS.iload X0.here hx rfl (hb hby d1_13) rfl  q) ?_
  show Rch p e below _ s₁ (mkF m 15 #[.val (.ref a1), .val (.long ((1 : Int64) * (b0.toInt64))), .second, .val (.ref a1), .val (.int (2 : Int32)), .val (.int (1 : Int32)), .val (.int b0)] [(.int (2 : Int32)), (.int (1 : Int32))])
  refine Rch.go (fun _ q => XS.icmpNo X0.here hx rfl (hb hby d1_15) rfl (tlt (by decide)).2.1 q) ?_
  show Rch p e below _ s₁ (mkF m 18 #[.val (.ref a1), .val (.long ((1 : Int64) * (b0.toInt64))), .second, .val (.ref a1), .val (.int (2 : Int32)), .val (.int (1 : Int32)), .val (.int b0)] [])
  refine Rch.go (fun _ q => XS.aloadN X0.here hx rfl (hb hby d1_18) rfl rfl q) ?_
  show Rch p e below _ s₁ (mkF m 19 #[.val (.ref a1), .val (.long ((1 : Int64) * (b0.toInt64))), .second, .val (.ref a1), .val (.int (2 : Int32)), .val (.int (1 : Int32)), .val (.int b0)] [(.ref a1)])
  refine Rch.go (fun _ q => XS.iload X0.here hx rfl (hb hby d1_19) rfl  q) ?_
  show Rch p e below _ s₁ (mkF m 21 #[.val (.ref a1), .val (.long ((1 : Int64) * (b0.toInt64))), .second, .val (.ref a1), .val (.int (2 : Int32)), .val (.int (1 : Int32)), .val (.int b0)] [(.int (1 : Int32)), (.ref a1)])
  refine Rch.go (fun _ q => ldI X0 hx hZ e0 V1 (v := (.int b1)) (by decide) rfl (g := (mkF m 21 #[.val (.ref a1), .val (.long ((1 : Int64) * (b0.toInt64))), .second, .val (.ref a1), .val (.int (2 : Int32)), .val (.int (1 : Int32)), .val (.int b0)] [(.int (1 : Int32)), (.ref a1)])) rfl rfl (hb hby d1_21) _ q) ?_
  show Rch p e below _ s₁ (mkF m 22 #[.val (.ref a1), .val (.long ((1 : Int64) * (b0.toInt64))), .second, .val (.ref a1), .val (.int (2 : Int32)), .val (.int (1 : Int32)), .val (.int b0)] [(.int b1)])
  refine Rch.go (fun _ q => XS.istore X0.here hx rfl (hb hby d1_22) rfl (l' := #[.val (.ref a1), .val (.long ((1 : Int64) * (b0.toInt64))), .second, .val (.ref a1), .val (.int (2 : Int32)), .val (.int (1 : Int32)), .val (.int b1)]) rfl q) ?_
  show Rch p e below _ s₁ (mkF m 24 #[.val (.ref a1), .val (.long ((1 : Int64) * (b0.toInt64))), .second, .val (.ref a1), .val (.int (2 : Int32)), .val (.int (1 : Int32)), .val (.int b1)] [])
  refine Rch.go (fun _ q => XS.lloadN X0.here hx rfl (hb hby d1_24) rfl  q) ?_
  show Rch p e below _ s₁ (mkF m 25 #[.val (.ref a1), .val (.long ((1 : Int64) * (b0.toInt64))), .second, .val (.ref a1), .val (.int (2 : Int32)), .val (.int (1 : Int32)), .val (.int b1)] [(.long ((1 : Int64) * (b0.toInt64)))])
  refine Rch.go (fun _ q => XS.iload X0.here hx rfl (hb hby d1_25) rfl  q) ?_
  show Rch p e below _ s₁ (mkF m 27 #[.val (.ref a1), .val (.long ((1 : Int64) * (b0.toInt64))), .second, .val (.ref a1), .val (.int (2 : Int32)), .val (.int (1 : Int32)), .val (.int b1)] [(.int b1), (.long ((1 : Int64) * (b0.toInt64)))])
  refine Rch.go (fun _ q => XS.i2l X0.here hx rfl (hb hby d1_27) rfl q) ?_
  show Rch p e below _ s₁ (mkF m 28 #[.val (.ref a1), .val (.long ((1 : Int64) * (b0.toInt64))), .second, .val (.ref a1), .val (.int (2 : Int32)), .val (.int (1 : Int32)), .val (.int b1)] [(.long (b1.toInt64)), (.long ((1 : Int64) * (b0.toInt64)))])
  refine Rch.go (fun _ q => XS.lmul X0.here hx rfl (hb hby d1_28) rfl q) ?_
  show Rch p e below _ s₁ (mkF m 29 #[.val (.ref a1), .val (.long ((1 : Int64) * (b0.toInt64))), .second, .val (.ref a1), .val (.int (2 : Int32)), .val (.int (1 : Int32)), .val (.int b1)] [(.long (((1 : Int64) * (b0.toInt64)) * (b1.toInt64)))])
  refine Rch.go (fun _ q => XS.lstoreN X0.here hx rfl (hb hby d1_29) rfl (l' := #[.val (.ref a1), .val (.long (((1 : Int64) * (b0.toInt64)) * (b1.toInt64))), .second, .val (.ref a1), .val (.int (2 : Int32)), .val (.int (1 : Int32)), .val (.int b1)]) rfl q) ?_
  show Rch p e below _ s₁ (mkF m 30 #[.val (.ref a1), .val (.long (((1 : Int64) * (b0.toInt64)) * (b1.toInt64))), .second, .val (.ref a1), .val (.int (2 : Int32)), .val (.int (1 : Int32)), .val (.int b1)] [])
  refine Rch.go (fun _ q => XS.iinc X0.here hx rfl (hb hby d1_30) rfl (l' := #[.val (.ref a1), .val (.long (((1 : Int64) * (b0.toInt64)) * (b1.toInt64))), .second, .val (.ref a1), .val (.int (2 : Int32)), .val (.int (2 : Int32)), .val (.int b1)]) rfl q) ?_
  show Rch p e below _ s₁ (mkF m 33 #[.val (.ref a1), .val (.long (((1 : Int64) * (b0.toInt64)) * (b1.toInt64))), .second, .val (.ref a1), .val (.int (2 : Int32)), .val (.int (2 : Int32)), .val (.int b1)] [])
  refine Rch.go (fun _ q => XS.goto X0.here hx rfl (pc0 := 33) (pc' := 11) rfl (hb hby d1_33) (by decide) (by decide) q) ?_
  show Rch p e below _ s₁ (mkF m 11 #[.val (.ref a1), .val (.long (((1 : Int64) * (b0.toInt64)) * (b1.toInt64))), .second, .val (.ref a1), .val (.int (2 : Int32)), .val (.int (2 : Int32)), .val (.int b1)] [])
  refine Rch.go (fun _ q => XS.iload X0.here hx rfl (hb hby d1_11) rfl  q) ?_
  show Rch p e below _ s₁ (mkF m 13 #[.val (.ref a1), .val (.long (((1 : Int64) * (b0.toInt64)) * (b1.toInt64))), .second, .val (.ref a1), .val (.int (2 : Int32)), .val (.int (2 : Int32)), .val (.int b1)] [(.int (2 : Int32))])
  refine Rch.go (fun _ q => XS.iload X0.here hx rfl (hb hby d1_13) rfl  q) ?_
  show Rch p e below _ s₁ (mkF m 15 #[.val (.ref a1), .val (.long (((1 : Int64) * (b0.toInt64)) * (b1.toInt64))), .second, .val (.ref a1), .val (.int (2 : Int32)), .val (.int (2 : Int32)), .val (.int b1)] [(.int (2 : Int32)), (.int (2 : Int32))])
  refine Rch.go (fun _ q => XS.icmpYes X0.here hx rfl (pc0 := 15) (pc' := 36) rfl (hb hby d1_15) rfl (flt (by decide)).2.1 (by decide) (by decide) q) ?_
  show Rch p e below _ s₁ (mkF m 36 #[.val (.ref a1), .val (.long (((1 : Int64) * (b0.toInt64)) * (b1.toInt64))), .second, .val (.ref a1), .val (.int (2 : Int32)), .val (.int (2 : Int32)), .val (.int b1)] [])
  refine Rch.go (fun _ q => XS.lloadN X0.here hx rfl (hb hby d1_36) rfl  q) ?_
  show Rch p e below _ s₁ (mkF m 37 #[.val (.ref a1), .val (.long (((1 : Int64) * (b0.toInt64)) * (b1.toInt64))), .second, .val (.ref a1), .val (.int (2 : Int32)), .val (.int (2 : Int32)), .val (.int b1)] [(.long (((1 : Int64) * (b0.toInt64)) * (b1.toInt64)))])
  refine Rch.retJ X0 hx hlk Bd.returns (hb hby d1_37) (by decide) (by decide) ?_
  unfold Qrm1_2
  exact ⟨rfl, N0, e0⟩
theorem own_ef4 (m : MethodId) (x0 : Addr) : entryFrame m #[(.ref x0)] 7 = mkF m 0 #[.val (.ref x0), .unset, .unset, .unset, .unset, .unset, .unset] [] := by first | (simp [entryFrame, mkF, argsToLocals, Value.category, maxLocals]; done) | rfl
def Qrm1_3 (Z : State) (a1 : Addr) (k1 : ClassId) (b0 b1 b2 : Int32) (h0 : Heap) (n0 : Nat) : Option Value → Heap → List Loc → Prop := fun v h L => v = some (.long ((((1 : Int64) * (b0.toInt64)) * (b1.toInt64)) * (b2.toInt64))) ∧ Fr n0 L ∧ h = h0
set_option maxRecDepth 65536 in
set_option maxHeartbeats 40000000 in
theorem rm1_3 (l : Launch) (Z : State) (a0 : Array Value) (hw : ∀ d ∈ tables_1, d.before a0 Z = true) (ws : List Jvm.Cond) (a1 : Addr) (k1 : ClassId) (b0 b1 b2 : Int32) (h0 : Heap) (n0 : Nat) (Z0 : n0 ≤ h0.size) (V1 : Arv Z h0 a1 k1 .int (3 : Int32) [(.int b0), (.int b1), (.int b2)] (.int 0)) :
    MetFree l (⟨"com/example/heverlee/heverlee/engine/Factor", "entries", "([I)J"⟩ : MethodName) (head1 (Jvm.Cond.code (⟨"com/example/heverlee/heverlee/engine/Factor", "entries", "([I)J"⟩ : MethodName) prog_33_method_18_code 7 (some .long) :: ws) ({ frames := 0, cells := 0, slots := 0, locals := 0 } : Room)) (fun a U => a = #[(.ref a1)] ∧ Z.Warmed39 U.vm ∧ U.heap = h0) (fun _ _ _ _ _ => True) (fun _ U o U' => ∃ v L, o = .returned v ∧ (Qrm1_3 Z a1 k1 b0 b1 b2 h0 n0) v U'.heap L ∧ FrameEnd U o U' L ({ frames := 0, cells := 0, slots := 0, locals := 0 } : Room).cells ({ frames := 0, cells := 0, slots := 0, locals := 0 } : Room).slots) := by
  refine MetFree.of_bodySF own_pn0 hisR ?_
  intro p e s m args below meth c s₁ Bd hml0 hP hK
  obtain ⟨rfl, hZ, hh⟩ := hP
  have hx := Bd.exec
  have hby := Bd.bytes
  have hlk := Bd.notSynchronized
  have hml : c.maxLocals = 7 := hml0
  have hown : s.vm.findClass "com/example/heverlee/heverlee/engine/Factor" = some m.cls := findClass_of_methodNamed Bd.named
  have hnm := (name_of_methodNamed Bd.named Bd.method).1
  have X0 : Stand p l e ({ frames := 0, cells := 0, slots := 0, locals := 0 } : Room) s m #[(.ref a1)] below meth c s₁ [] 0 0 := Stand.of_body Bd
  have e0 : s₁.heap = h0 := by rw [← hh, Bd.state]; rfl
  have N0 := Fr.nil n0
  refine Rch.entry (G := (EndQ (Qrm1_3 Z a1 k1 b0 b1 b2 h0 n0) s ({ frames := 0, cells := 0, slots := 0, locals := 0 } : Room).cells ({ frames := 0, cells := 0, slots := 0, locals := 0 } : Room).slots)) (own_ef4 m a1) ?_
  show Rch p e below _ s₁ (mkF m 0 #[.val (.ref a1), .unset, .unset, .unset, .unset, .unset, .unset] [])
  refine Rch.go (fun _ q => XS.lconst X0.here hx rfl (hb hby d1_0) q) ?_
  show Rch p e below _ s₁ (mkF m 1 #[.val (.ref a1), .unset, .unset, .unset, .unset, .unset, .unset] [(.long (1 : Int64))])
  refine Rch.go (fun _ q => XS.lstoreN X0.here hx rfl (hb hby d1_1) rfl (l' := #[.val (.ref a1), .val (.long (1 : Int64)), .second, .unset, .unset, .unset, .unset]) rfl q) ?_
  show Rch p e below _ s₁ (mkF m 2 #[.val (.ref a1), .val (.long (1 : Int64)), .second, .unset, .unset, .unset, .unset] [])
  refine Rch.go (fun _ q => XS.aloadN X0.here hx rfl (hb hby d1_2) rfl rfl q) ?_
  show Rch p e below _ s₁ (mkF m 3 #[.val (.ref a1), .val (.long (1 : Int64)), .second, .unset, .unset, .unset, .unset] [(.ref a1)])
  refine Rch.go (fun _ q => XS.astoreN X0.here hx rfl (hb hby d1_3) rfl rfl (l' := #[.val (.ref a1), .val (.long (1 : Int64)), .second, .val (.ref a1), .unset, .unset, .unset]) rfl q) ?_
  show Rch p e below _ s₁ (mkF m 4 #[.val (.ref a1), .val (.long (1 : Int64)), .second, .val (.ref a1), .unset, .unset, .unset] [])
  refine Rch.go (fun _ q => XS.aloadN X0.here hx rfl (hb hby d1_4) rfl rfl q) ?_
  show Rch p e below _ s₁ (mkF m 5 #[.val (.ref a1), .val (.long (1 : Int64)), .second, .val (.ref a1), .unset, .unset, .unset] [(.ref a1)])
  refine Rch.go (fun _ q => lenA X0 hx hZ e0 V1 (g := (mkF m 5 #[.val (.ref a1), .val (.long (1 : Int64)), .second, .val (.ref a1), .unset, .unset, .unset] [(.ref a1)])) rfl rfl (hb hby d1_5) _ q) ?_
  show Rch p e below _ s₁ (mkF m 6 #[.val (.ref a1), .val (.long (1 : Int64)), .second, .val (.ref a1), .unset, .unset, .unset] [(.int (3 : Int32))])
  refine Rch.go (fun _ q => XS.istore X0.here hx rfl (hb hby d1_6) rfl (l' := #[.val (.ref a1), .val (.long (1 : Int64)), .second, .val (.ref a1), .val (.int (3 : Int32)), .unset, .unset]) rfl q) ?_
  show Rch p e below _ s₁ (mkF m 8 #[.val (.ref a1), .val (.long (1 : Int64)), .second, .val (.ref a1), .val (.int (3 : Int32)), .unset, .unset] [])
  refine Rch.go (fun _ q => XS.iconst X0.here hx rfl (hb hby d1_8) q) ?_
  show Rch p e below _ s₁ (mkF m 9 #[.val (.ref a1), .val (.long (1 : Int64)), .second, .val (.ref a1), .val (.int (3 : Int32)), .unset, .unset] [(.int (0 : Int32))])
  refine Rch.go (fun _ q => XS.istore X0.here hx rfl (hb hby d1_9) rfl (l' := #[.val (.ref a1), .val (.long (1 : Int64)), .second, .val (.ref a1), .val (.int (3 : Int32)), .val (.int (0 : Int32)), .unset]) rfl q) ?_
  show Rch p e below _ s₁ (mkF m 11 #[.val (.ref a1), .val (.long (1 : Int64)), .second, .val (.ref a1), .val (.int (3 : Int32)), .val (.int (0 : Int32)), .unset] [])
  refine Rch.go (fun _ q => XS.iload X0.here hx rfl (hb hby d1_11) rfl  q) ?_
  show Rch p e below _ s₁ (mkF m 13 #[.val (.ref a1), .val (.long (1 : Int64)), .second, .val (.ref a1), .val (.int (3 : Int32)), .val (.int (0 : Int32)), .unset] [(.int (0 : Int32))])
  refine Rch.go (fun _ q => XS.iload X0.here hx rfl (hb hby d1_13) rfl  q) ?_
  show Rch p e below _ s₁ (mkF m 15 #[.val (.ref a1), .val (.long (1 : Int64)), .second, .val (.ref a1), .val (.int (3 : Int32)), .val (.int (0 : Int32)), .unset] [(.int (3 : Int32)), (.int (0 : Int32))])
  refine Rch.go (fun _ q => XS.icmpNo X0.here hx rfl (hb hby d1_15) rfl (tlt (by decide)).2.1 q) ?_
  show Rch p e below _ s₁ (mkF m 18 #[.val (.ref a1), .val (.long (1 : Int64)), .second, .val (.ref a1), .val (.int (3 : Int32)), .val (.int (0 : Int32)), .unset] [])
  refine Rch.go (fun _ q => XS.aloadN X0.here hx rfl (hb hby d1_18) rfl rfl q) ?_
  show Rch p e below _ s₁ (mkF m 19 #[.val (.ref a1), .val (.long (1 : Int64)), .second, .val (.ref a1), .val (.int (3 : Int32)), .val (.int (0 : Int32)), .unset] [(.ref a1)])
  refine Rch.go (fun _ q => XS.iload X0.here hx rfl (hb hby d1_19) rfl  q) ?_
  show Rch p e below _ s₁ (mkF m 21 #[.val (.ref a1), .val (.long (1 : Int64)), .second, .val (.ref a1), .val (.int (3 : Int32)), .val (.int (0 : Int32)), .unset] [(.int (0 : Int32)), (.ref a1)])
  refine Rch.go (fun _ q => ldI X0 hx hZ e0 V1 (v := (.int b0)) (by decide) rfl (g := (mkF m 21 #[.val (.ref a1), .val (.long (1 : Int64)), .second, .val (.ref a1), .val (.int (3 : Int32)), .val (.int (0 : Int32)), .unset] [(.int (0 : Int32)), (.ref a1)])) rfl rfl (hb hby d1_21) _ q) ?_
  show Rch p e below _ s₁ (mkF m 22 #[.val (.ref a1), .val (.long (1 : Int64)), .second, .val (.ref a1), .val (.int (3 : Int32)), .val (.int (0 : Int32)), .unset] [(.int b0)])
  refine Rch.go (fun _ q => XS.istore X0.here hx rfl (hb hby d1_22) rfl (l' := #[.val (.ref a1), .val (.long (1 : Int64)), .second, .val (.ref a1), .val (.int (3 : Int32)), .val (.int (0 : Int32)), .val (.int b0)]) rfl q) ?_
  show Rch p e below _ s₁ (mkF m 24 #[.val (.ref a1), .val (.long (1 : Int64)), .second, .val (.ref a1), .val (.int (3 : Int32)), .val (.int (0 : Int32)), .val (.int b0)] [])
  refine Rch.go (fun _ q => XS.lloadN X0.here hx rfl (hb hby d1_24) rfl  q) ?_
  show Rch p e below _ s₁ (mkF m 25 #[.val (.ref a1), .val (.long (1 : Int64)), .second, .val (.ref a1), .val (.int (3 : Int32)), .val (.int (0 : Int32)), .val (.int b0)] [(.long (1 : Int64))])
  refine Rch.go (fun _ q => XS.iload X0.here hx rfl (hb hby d1_25) rfl  q) ?_
  show Rch p e below _ s₁ (mkF m 27 #[.val (.ref a1), .val (.long (1 : Int64)), .second, .val (.ref a1), .val (.int (3 : Int32)), .val (.int (0 : Int32)), .val (.int b0)] [(.int b0), (.long (1 : Int64))])
  refine Rch.go (fun _ q => XS.i2l X0.here hx rfl (hb hby d1_27) rfl q) ?_
  show Rch p e below _ s₁ (mkF m 28 #[.val (.ref a1), .val (.long (1 : Int64)), .second, .val (.ref a1), .val (.int (3 : Int32)), .val (.int (0 : Int32)), .val (.int b0)] [(.long (b0.toInt64)), (.long (1 : Int64))])
  refine Rch.go (fun _ q => XS.lmul X0.here hx rfl (hb hby d1_28) rfl q) ?_
  show Rch p e below _ s₁ (mkF m 29 #[.val (.ref a1), .val (.long (1 : Int64)), .second, .val (.ref a1), .val (.int (3 : Int32)), .val (.int (0 : Int32)), .val (.int b0)] [(.long ((1 : Int64) * (b0.toInt64)))])
  refine Rch.go (fun _ q => XS.lstoreN X0.here hx rfl (hb hby d1_29) rfl (l' := #[.val (.ref a1), .val (.long ((1 : Int64) * (b0.toInt64))), .second, .val (.ref a1), .val (.int (3 : Int32)), .val (.int (0 : Int32)), .val (.int b0)]) rfl q) ?_
  show Rch p e below _ s₁ (mkF m 30 #[.val (.ref a1), .val (.long ((1 : Int64) * (b0.toInt64))), .second, .val (.ref a1), .val (.int (3 : Int32)), .val (.int (0 : Int32)), .val (.int b0)] [])
  refine Rch.go (fun _ q => XS.iinc X0.here hx rfl (hb hby d1_30) rfl (l' := #[.val (.ref a1), .val (.long ((1 : Int64) * (b0.toInt64))), .second, .val (.ref a1), .val (.int (3 : Int32)), .val (.int (1 : Int32)), .val (.int b0)]) rfl q) ?_
  show Rch p e below _ s₁ (mkF m 33 #[.val (.ref a1), .val (.long ((1 : Int64) * (b0.toInt64))), .second, .val (.ref a1), .val (.int (3 : Int32)), .val (.int (1 : Int32)), .val (.int b0)] [])
  refine Rch.go (fun _ q => XS.goto X0.here hx rfl (pc0 := 33) (pc' := 11) rfl (hb hby d1_33) (by decide) (by decide) q) ?_
  show Rch p e below _ s₁ (mkF m 11 #[.val (.ref a1), .val (.long ((1 : Int64) * (b0.toInt64))), .second, .val (.ref a1), .val (.int (3 : Int32)), .val (.int (1 : Int32)), .val (.int b0)] [])
  refine Rch.go (fun _ q => XS.iload X0.here hx rfl (hb hby d1_11) rfl  q) ?_
  show Rch p e below _ s₁ (mkF m 13 #[.val (.ref a1), .val (.long ((1 : Int64) * (b0.toInt64))), .second, .val (.ref a1), .val (.int (3 : Int32)), .val (.int (1 : Int32)), .val (.int b0)] [(.int (1 : Int32))])
  refine Rch.go (fun _ q => XS.iload X0.here hx rfl (hb hby d1_13) rfl  q) ?_
  show Rch p e below _ s₁ (mkF m 15 #[.val (.ref a1), .val (.long ((1 : Int64) * (b0.toInt64))), .second, .val (.ref a1), .val (.int (3 : Int32)), .val (.int (1 : Int32)), .val (.int b0)] [(.int (3 : Int32)), (.int (1 : Int32))])
  refine Rch.go (fun _ q => XS.icmpNo X0.here hx rfl (hb hby d1_15) rfl (tlt (by decide)).2.1 q) ?_
  show Rch p e below _ s₁ (mkF m 18 #[.val (.ref a1), .val (.long ((1 : Int64) * (b0.toInt64))), .second, .val (.ref a1), .val (.int (3 : Int32)), .val (.int (1 : Int32)), .val (.int b0)] [])
  refine Rch.go (fun _ q => XS.aloadN X0.here hx rfl (hb hby d1_18) rfl rfl q) ?_
  show Rch p e below _ s₁ (mkF m 19 #[.val (.ref a1), .val (.long ((1 : Int64) * (b0.toInt64))), .second, .val (.ref a1), .val (.int (3 : Int32)), .val (.int (1 : Int32)), .val (.int b0)] [(.ref a1)])
  refine Rch.go (fun _ q => XS.iload X0.here hx rfl (hb hby d1_19) rfl  q) ?_
  show Rch p e below _ s₁ (mkF m 21 #[.val (.ref a1), .val (.long ((1 : Int64) * (b0.toInt64))), .second, .val (.ref a1), .val (.int (3 : Int32)), .val (.int (1 : Int32)), .val (.int b0)] [(.int (1 : Int32)), (.ref a1)])
  refine Rch.go (fun _ q => ldI X0 hx hZ e0 V1 (v := (.int b1)) (by decide) rfl (g := (mkF m 21 #[.val (.ref a1), .val (.long ((1 : Int64) * (b0.toInt64))), .second, .val (.ref a1), .val (.int (3 : Int32)), .val (.int (1 : Int32)), .val (.int b0)] [(.int (1 : Int32)), (.ref a1)])) rfl rfl (hb hby d1_21) _ q) ?_
  show Rch p e below _ s₁ (mkF m 22 #[.val (.ref a1), .val (.long ((1 : Int64) * (b0.toInt64))), .second, .val (.ref a1), .val (.int (3 : Int32)), .val (.int (1 : Int32)), .val (.int b0)] [(.int b1)])
  refine Rch.go (fun _ q => XS.istore X0.here hx rfl (hb hby d1_22) rfl (l' := #[.val (.ref a1), .val (.long ((1 : Int64) * (b0.toInt64))), .second, .val (.ref a1), .val (.int (3 : Int32)), .val (.int (1 : Int32)), .val (.int b1)]) rfl q) ?_
  show Rch p e below _ s₁ (mkF m 24 #[.val (.ref a1), .val (.long ((1 : Int64) * (b0.toInt64))), .second, .val (.ref a1), .val (.int (3 : Int32)), .val (.int (1 : Int32)), .val (.int b1)] [])
  refine Rch.go (fun _ q => XS.lloadN X0.here hx rfl (hb hby d1_24) rfl  q) ?_
  show Rch p e below _ s₁ (mkF m 25 #[.val (.ref a1), .val (.long ((1 : Int64) * (b0.toInt64))), .second, .val (.ref a1), .val (.int (3 : Int32)), .val (.int (1 : Int32)), .val (.int b1)] [(.long ((1 : Int64) * (b0.toInt64)))])
  refine Rch.go (fun _ q => XS.iload X0.here hx rfl (hb hby d1_25) rfl  q) ?_
  show Rch p e below _ s₁ (mkF m 27 #[.val (.ref a1), .val (.long ((1 : Int64) * (b0.toInt64))), .second, .val (.ref a1), .val (.int (3 : Int32)), .val (.int (1 : Int32)), .val (.int b1)] [(.int b1), (.long ((1 : Int64) * (b0.toInt64)))])
  refine Rch.go (fun _ q => XS.i2l X0.here hx rfl (hb hby d1_27) rfl q) ?_
  show Rch p e below _ s₁ (mkF m 28 #[.val (.ref a1), .val (.long ((1 : Int64) * (b0.toInt64))), .second, .val (.ref a1), .val (.int (3 : Int32)), .val (.int (1 : Int32)), .val (.int b1)] [(.long (b1.toInt64)), (.long ((1 : Int64) * (b0.toInt64)))])
  refine Rch.go (fun _ q => XS.lmul X0.here hx rfl (hb hby d1_28) rfl q) ?_
  show Rch p e below _ s₁ (mkF m 29 #[.val (.ref a1), .val (.long ((1 : Int64) * (b0.toInt64))), .second, .val (.ref a1), .val (.int (3 : Int32)), .val (.int (1 : Int32)), .val (.int b1)] [(.long (((1 : Int64) * (b0.toInt64)) * (b1.toInt64)))])
  refine Rch.go (fun _ q => XS.lstoreN X0.here hx rfl (hb hby d1_29) rfl (l' := #[.val (.ref a1), .val (.long (((1 : Int64) * (b0.toInt64)) * (b1.toInt64))), .second, .val (.ref a1), .val (.int (3 : Int32)), .val (.int (1 : Int32)), .val (.int b1)]) rfl q) ?_
  show Rch p e below _ s₁ (mkF m 30 #[.val (.ref a1), .val (.long (((1 : Int64) * (b0.toInt64)) * (b1.toInt64))), .second, .val (.ref a1), .val (.int (3 : Int32)), .val (.int (1 : Int32)), .val (.int b1)] [])
  refine Rch.go (fun _ q => XS.iinc X0.here hx rfl (hb hby d1_30) rfl (l' := #[.val (.ref a1), .val (.long (((1 : Int64) * (b0.toInt64)) * (b1.toInt64))), .second, .val (.ref a1), .val (.int (3 : Int32)), .val (.int (2 : Int32)), .val (.int b1)]) rfl q) ?_
  show Rch p e below _ s₁ (mkF m 33 #[.val (.ref a1), .val (.long (((1 : Int64) * (b0.toInt64)) * (b1.toInt64))), .second, .val (.ref a1), .val (.int (3 : Int32)), .val (.int (2 : Int32)), .val (.int b1)] [])
  refine Rch.go (fun _ q => XS.goto X0.here hx rfl (pc0 := 33) (pc' := 11) rfl (hb hby d1_33) (by decide) (by decide) q) ?_
  show Rch p e below _ s₁ (mkF m 11 #[.val (.ref a1), .val (.long (((1 : Int64) * (b0.toInt64)) * (b1.toInt64))), .second, .val (.ref a1), .val (.int (3 : Int32)), .val (.int (2 : Int32)), .val (.int b1)] [])
  refine Rch.go (fun _ q => XS.iload X0.here hx rfl (hb hby d1_11) rfl  q) ?_
  show Rch p e below _ s₁ (mkF m 13 #[.val (.ref a1), .val (.long (((1 : Int64) * (b0.toInt64)) * (b1.toInt64))), .second, .val (.ref a1), .val (.int (3 : Int32)), .val (.int (2 : Int32)), .val (.int b1)] [(.int (2 : Int32))])
  refine Rch.go (fun _ q => XS.iload X0.here hx rfl (hb hby d1_13) rfl  q) ?_
  show Rch p e below _ s₁ (mkF m 15 #[.val (.ref a1), .val (.long (((1 : Int64) * (b0.toInt64)) * (b1.toInt64))), .second, .val (.ref a1), .val (.int (3 : Int32)), .val (.int (2 : Int32)), .val (.int b1)] [(.int (3 : Int32)), (.int (2 : Int32))])
  refine Rch.go (fun _ q => XS.icmpNo X0.here hx rfl (hb hby d1_15) rfl (tlt (by decide)).2.1 q) ?_
  show Rch p e below _ s₁ (mkF m 18 #[.val (.ref a1), .val (.long (((1 : Int64) * (b0.toInt64)) * (b1.toInt64))), .second, .val (.ref a1), .val (.int (3 : Int32)), .val (.int (2 : Int32)), .val (.int b1)] [])
  refine Rch.go (fun _ q => XS.aloadN X0.here hx rfl (hb hby d1_18) rfl rfl q) ?_
  show Rch p e below _ s₁ (mkF m 19 #[.val (.ref a1), .val (.long (((1 : Int64) * (b0.toInt64)) * (b1.toInt64))), .second, .val (.ref a1), .val (.int (3 : Int32)), .val (.int (2 : Int32)), .val (.int b1)] [(.ref a1)])
  refine Rch.go (fun _ q => XS.iload X0.here hx rfl (hb hby d1_19) rfl  q) ?_
  show Rch p e below _ s₁ (mkF m 21 #[.val (.ref a1), .val (.long (((1 : Int64) * (b0.toInt64)) * (b1.toInt64))), .second, .val (.ref a1), .val (.int (3 : Int32)), .val (.int (2 : Int32)), .val (.int b1)] [(.int (2 : Int32)), (.ref a1)])
  refine Rch.go (fun _ q => ldI X0 hx hZ e0 V1 (v := (.int b2)) (by decide) rfl (g := (mkF m 21 #[.val (.ref a1), .val (.long (((1 : Int64) * (b0.toInt64)) * (b1.toInt64))), .second, .val (.ref a1), .val (.int (3 : Int32)), .val (.int (2 : Int32)), .val (.int b1)] [(.int (2 : Int32)), (.ref a1)])) rfl rfl (hb hby d1_21) _ q) ?_
  show Rch p e below _ s₁ (mkF m 22 #[.val (.ref a1), .val (.long (((1 : Int64) * (b0.toInt64)) * (b1.toInt64))), .second, .val (.ref a1), .val (.int (3 : Int32)), .val (.int (2 : Int32)), .val (.int b1)] [(.int b2)])
  refine Rch.go (fun _ q => XS.istore X0.here hx rfl (hb hby d1_22) rfl (l' := #[.val (.ref a1), .val (.long (((1 : Int64) * (b0.toInt64)) * (b1.toInt64))), .second, .val (.ref a1), .val (.int (3 : Int32)), .val (.int (2 : Int32)), .val (.int b2)]) rfl q) ?_
  show Rch p e below _ s₁ (mkF m 24 #[.val (.ref a1), .val (.long (((1 : Int64) * (b0.toInt64)) * (b1.toInt64))), .second, .val (.ref a1), .val (.int (3 : Int32)), .val (.int (2 : Int32)), .val (.int b2)] [])
  refine Rch.go (fun _ q => XS.lloadN X0.here hx rfl (hb hby d1_24) rfl  q) ?_
  show Rch p e below _ s₁ (mkF m 25 #[.val (.ref a1), .val (.long (((1 : Int64) * (b0.toInt64)) * (b1.toInt64))), .second, .val (.ref a1), .val (.int (3 : Int32)), .val (.int (2 : Int32)), .val (.int b2)] [(.long (((1 : Int64) * (b0.toInt64)) * (b1.toInt64)))])
  refine Rch.go (fun _ q => XS.iload X0.here hx rfl (hb hby d1_25) rfl  q) ?_
  show Rch p e below _ s₁ (mkF m 27 #[.val (.ref a1), .val (.long (((1 : Int64) * (b0.toInt64)) * (b1.toInt64))), .second, .val (.ref a1), .val (.int (3 : Int32)), .val (.int (2 : Int32)), .val (.int b2)] [(.int b2), (.long (((1 : Int64) * (b0.toInt64)) * (b1.toInt64)))])
  refine Rch.go (fun _ q => XS.i2l X0.here hx rfl (hb hby d1_27) rfl q) ?_
  show Rch p e below _ s₁ (mkF m 28 #[.val (.ref a1), .val (.long (((1 : Int64) * (b0.toInt64)) * (b1.toInt64))), .second, .val (.ref a1), .val (.int (3 : Int32)), .val (.int (2 : Int32)), .val (.int b2)] [(.long (b2.toInt64)), (.long (((1 : Int64) * (b0.toInt64)) * (b1.toInt64)))])
  refine Rch.go (fun _ q => XS.lmul X0.here hx rfl (hb hby d1_28) rfl q) ?_
  show Rch p e below _ s₁ (mkF m 29 #[.val (.ref a1), .val (.long (((1 : Int64) * (b0.toInt64)) * (b1.toInt64))), .second, .val (.ref a1), .val (.int (3 : Int32)), .val (.int (2 : Int32)), .val (.int b2)] [(.long ((((1 : Int64) * (b0.toInt64)) * (b1.toInt64)) * (b2.toInt64)))])
  refine Rch.go (fun _ q => XS.lstoreN X0.here hx rfl (hb hby d1_29) rfl (l' := #[.val (.ref a1), .val (.long ((((1 : Int64) * (b0.toInt64)) * (b1.toInt64)) * (b2.toInt64))), .second, .val (.ref a1), .val (.int (3 : Int32)), .val (.int (2 : Int32)), .val (.int b2)]) rfl q) ?_
  show Rch p e below _ s₁ (mkF m 30 #[.val (.ref a1), .val (.long ((((1 : Int64) * (b0.toInt64)) * (b1.toInt64)) * (b2.toInt64))), .second, .val (.ref a1), .val (.int (3 : Int32)), .val (.int (2 : Int32)), .val (.int b2)] [])
  refine Rch.go (fun _ q => XS.iinc X0.here hx rfl (hb hby d1_30) rfl (l' := #[.val (.ref a1), .val (.long ((((1 : Int64) * (b0.toInt64)) * (b1.toInt64)) * (b2.toInt64))), .second, .val (.ref a1), .val (.int (3 : Int32)), .val (.int (3 : Int32)), .val (.int b2)]) rfl q) ?_
  show Rch p e below _ s₁ (mkF m 33 #[.val (.ref a1), .val (.long ((((1 : Int64) * (b0.toInt64)) * (b1.toInt64)) * (b2.toInt64))), .second, .val (.ref a1), .val (.int (3 : Int32)), .val (.int (3 : Int32)), .val (.int b2)] [])
  refine Rch.go (fun _ q => XS.goto X0.here hx rfl (pc0 := 33) (pc' := 11) rfl (hb hby d1_33) (by decide) (by decide) q) ?_
  show Rch p e below _ s₁ (mkF m 11 #[.val (.ref a1), .val (.long ((((1 : Int64) * (b0.toInt64)) * (b1.toInt64)) * (b2.toInt64))), .second, .val (.ref a1), .val (.int (3 : Int32)), .val (.int (3 : Int32)), .val (.int b2)] [])
  refine Rch.go (fun _ q => XS.iload X0.here hx rfl (hb hby d1_11) rfl  q) ?_
  show Rch p e below _ s₁ (mkF m 13 #[.val (.ref a1), .val (.long ((((1 : Int64) * (b0.toInt64)) * (b1.toInt64)) * (b2.toInt64))), .second, .val (.ref a1), .val (.int (3 : Int32)), .val (.int (3 : Int32)), .val (.int b2)] [(.int (3 : Int32))])
  refine Rch.go (fun _ q => XS.iload X0.here hx rfl (hb hby d1_13) rfl  q) ?_
  show Rch p e below _ s₁ (mkF m 15 #[.val (.ref a1), .val (.long ((((1 : Int64) * (b0.toInt64)) * (b1.toInt64)) * (b2.toInt64))), .second, .val (.ref a1), .val (.int (3 : Int32)), .val (.int (3 : Int32)), .val (.int b2)] [(.int (3 : Int32)), (.int (3 : Int32))])
  refine Rch.go (fun _ q => XS.icmpYes X0.here hx rfl (pc0 := 15) (pc' := 36) rfl (hb hby d1_15) rfl (flt (by decide)).2.1 (by decide) (by decide) q) ?_
  show Rch p e below _ s₁ (mkF m 36 #[.val (.ref a1), .val (.long ((((1 : Int64) * (b0.toInt64)) * (b1.toInt64)) * (b2.toInt64))), .second, .val (.ref a1), .val (.int (3 : Int32)), .val (.int (3 : Int32)), .val (.int b2)] [])
  refine Rch.go (fun _ q => XS.lloadN X0.here hx rfl (hb hby d1_36) rfl  q) ?_
  show Rch p e below _ s₁ (mkF m 37 #[.val (.ref a1), .val (.long ((((1 : Int64) * (b0.toInt64)) * (b1.toInt64)) * (b2.toInt64))), .second, .val (.ref a1), .val (.int (3 : Int32)), .val (.int (3 : Int32)), .val (.int b2)] [(.long ((((1 : Int64) * (b0.toInt64)) * (b1.toInt64)) * (b2.toInt64)))])
  refine Rch.retJ X0 hx hlk Bd.returns (hb hby d1_37) (by decide) (by decide) ?_
  unfold Qrm1_3
  exact ⟨rfl, N0, e0⟩
theorem own_ef5 (m : MethodId) (x0 : Addr) : entryFrame m #[(.ref x0)] 7 = mkF m 0 #[.val (.ref x0), .unset, .unset, .unset, .unset, .unset, .unset] [] := by first | (simp [entryFrame, mkF, argsToLocals, Value.category, maxLocals]; done) | rfl
def Qrm1_4 (Z : State) (a1 : Addr) (k1 : ClassId) (b0 b1 b2 b3 : Int32) (h0 : Heap) (n0 : Nat) : Option Value → Heap → List Loc → Prop := fun v h L => v = some (.long (((((1 : Int64) * (b0.toInt64)) * (b1.toInt64)) * (b2.toInt64)) * (b3.toInt64))) ∧ Fr n0 L ∧ h = h0
set_option maxRecDepth 65536 in
set_option maxHeartbeats 40000000 in
theorem rm1_4 (l : Launch) (Z : State) (a0 : Array Value) (hw : ∀ d ∈ tables_1, d.before a0 Z = true) (ws : List Jvm.Cond) (a1 : Addr) (k1 : ClassId) (b0 b1 b2 b3 : Int32) (h0 : Heap) (n0 : Nat) (Z0 : n0 ≤ h0.size) (V1 : Arv Z h0 a1 k1 .int (4 : Int32) [(.int b0), (.int b1), (.int b2), (.int b3)] (.int 0)) :
    MetFree l (⟨"com/example/heverlee/heverlee/engine/Factor", "entries", "([I)J"⟩ : MethodName) (head1 (Jvm.Cond.code (⟨"com/example/heverlee/heverlee/engine/Factor", "entries", "([I)J"⟩ : MethodName) prog_33_method_18_code 7 (some .long) :: ws) ({ frames := 0, cells := 0, slots := 0, locals := 0 } : Room)) (fun a U => a = #[(.ref a1)] ∧ Z.Warmed39 U.vm ∧ U.heap = h0) (fun _ _ _ _ _ => True) (fun _ U o U' => ∃ v L, o = .returned v ∧ (Qrm1_4 Z a1 k1 b0 b1 b2 b3 h0 n0) v U'.heap L ∧ FrameEnd U o U' L ({ frames := 0, cells := 0, slots := 0, locals := 0 } : Room).cells ({ frames := 0, cells := 0, slots := 0, locals := 0 } : Room).slots) := by
  refine MetFree.of_bodySF own_pn0 hisR ?_
  intro p e s m args below meth c s₁ Bd hml0 hP hK
  obtain ⟨rfl, hZ, hh⟩ := hP
  have hx := Bd.exec
  have hby := Bd.bytes
  have hlk := Bd.notSynchronized
  have hml : c.maxLocals = 7 := hml0
  have hown : s.vm.findClass "com/example/heverlee/heverlee/engine/Factor" = some m.cls := findClass_of_methodNamed Bd.named
  have hnm := (name_of_methodNamed Bd.named Bd.method).1
  have X0 : Stand p l e ({ frames := 0, cells := 0, slots := 0, locals := 0 } : Room) s m #[(.ref a1)] below meth c s₁ [] 0 0 := Stand.of_body Bd
  have e0 : s₁.heap = h0 := by rw [← hh, Bd.state]; rfl
  have N0 := Fr.nil n0
  refine Rch.entry (G := (EndQ (Qrm1_4 Z a1 k1 b0 b1 b2 b3 h0 n0) s ({ frames := 0, cells := 0, slots := 0, locals := 0 } : Room).cells ({ frames := 0, cells := 0, slots := 0, locals := 0 } : Room).slots)) (own_ef5 m a1) ?_
  show Rch p e below _ s₁ (mkF m 0 #[.val (.ref a1), .unset, .unset, .unset, .unset, .unset, .unset] [])
  refine Rch.go (fun _ q => XS.lconst X0.here hx rfl (hb hby d1_0) q) ?_
  show Rch p e below _ s₁ (mkF m 1 #[.val (.ref a1), .unset, .unset, .unset, .unset, .unset, .unset] [(.long (1 : Int64))])
  refine Rch.go (fun _ q => XS.lstoreN X0.here hx rfl (hb hby d1_1) rfl (l' := #[.val (.ref a1), .val (.long (1 : Int64)), .second, .unset, .unset, .unset, .unset]) rfl q) ?_
  show Rch p e below _ s₁ (mkF m 2 #[.val (.ref a1), .val (.long (1 : Int64)), .second, .unset, .unset, .unset, .unset] [])
  refine Rch.go (fun _ q => XS.aloadN X0.here hx rfl (hb hby d1_2) rfl rfl q) ?_
  show Rch p e below _ s₁ (mkF m 3 #[.val (.ref a1), .val (.long (1 : Int64)), .second, .unset, .unset, .unset, .unset] [(.ref a1)])
  refine Rch.go (fun _ q => XS.astoreN X0.here hx rfl (hb hby d1_3) rfl rfl (l' := #[.val (.ref a1), .val (.long (1 : Int64)), .second, .val (.ref a1), .unset, .unset, .unset]) rfl q) ?_
  show Rch p e below _ s₁ (mkF m 4 #[.val (.ref a1), .val (.long (1 : Int64)), .second, .val (.ref a1), .unset, .unset, .unset] [])
  refine Rch.go (fun _ q => XS.aloadN X0.here hx rfl (hb hby d1_4) rfl rfl q) ?_
  show Rch p e below _ s₁ (mkF m 5 #[.val (.ref a1), .val (.long (1 : Int64)), .second, .val (.ref a1), .unset, .unset, .unset] [(.ref a1)])
  refine Rch.go (fun _ q => lenA X0 hx hZ e0 V1 (g := (mkF m 5 #[.val (.ref a1), .val (.long (1 : Int64)), .second, .val (.ref a1), .unset, .unset, .unset] [(.ref a1)])) rfl rfl (hb hby d1_5) _ q) ?_
  show Rch p e below _ s₁ (mkF m 6 #[.val (.ref a1), .val (.long (1 : Int64)), .second, .val (.ref a1), .unset, .unset, .unset] [(.int (4 : Int32))])
  refine Rch.go (fun _ q => XS.istore X0.here hx rfl (hb hby d1_6) rfl (l' := #[.val (.ref a1), .val (.long (1 : Int64)), .second, .val (.ref a1), .val (.int (4 : Int32)), .unset, .unset]) rfl q) ?_
  show Rch p e below _ s₁ (mkF m 8 #[.val (.ref a1), .val (.long (1 : Int64)), .second, .val (.ref a1), .val (.int (4 : Int32)), .unset, .unset] [])
  refine Rch.go (fun _ q => XS.iconst X0.here hx rfl (hb hby d1_8) q) ?_
  show Rch p e below _ s₁ (mkF m 9 #[.val (.ref a1), .val (.long (1 : Int64)), .second, .val (.ref a1), .val (.int (4 : Int32)), .unset, .unset] [(.int (0 : Int32))])
  refine Rch.go (fun _ q => XS.istore X0.here hx rfl (hb hby d1_9) rfl (l' := #[.val (.ref a1), .val (.long (1 : Int64)), .second, .val (.ref a1), .val (.int (4 : Int32)), .val (.int (0 : Int32)), .unset]) rfl q) ?_
  show Rch p e below _ s₁ (mkF m 11 #[.val (.ref a1), .val (.long (1 : Int64)), .second, .val (.ref a1), .val (.int (4 : Int32)), .val (.int (0 : Int32)), .unset] [])
  refine Rch.go (fun _ q => XS.iload X0.here hx rfl (hb hby d1_11) rfl  q) ?_
  show Rch p e below _ s₁ (mkF m 13 #[.val (.ref a1), .val (.long (1 : Int64)), .second, .val (.ref a1), .val (.int (4 : Int32)), .val (.int (0 : Int32)), .unset] [(.int (0 : Int32))])
  refine Rch.go (fun _ q => XS.iload X0.here hx rfl (hb hby d1_13) rfl  q) ?_
  show Rch p e below _ s₁ (mkF m 15 #[.val (.ref a1), .val (.long (1 : Int64)), .second, .val (.ref a1), .val (.int (4 : Int32)), .val (.int (0 : Int32)), .unset] [(.int (4 : Int32)), (.int (0 : Int32))])
  refine Rch.go (fun _ q => XS.icmpNo X0.here hx rfl (hb hby d1_15) rfl (tlt (by decide)).2.1 q) ?_
  show Rch p e below _ s₁ (mkF m 18 #[.val (.ref a1), .val (.long (1 : Int64)), .second, .val (.ref a1), .val (.int (4 : Int32)), .val (.int (0 : Int32)), .unset] [])
  refine Rch.go (fun _ q => XS.aloadN X0.here hx rfl (hb hby d1_18) rfl rfl q) ?_
  show Rch p e below _ s₁ (mkF m 19 #[.val (.ref a1), .val (.long (1 : Int64)), .second, .val (.ref a1), .val (.int (4 : Int32)), .val (.int (0 : Int32)), .unset] [(.ref a1)])
  refine Rch.go (fun _ q => XS.iload X0.here hx rfl (hb hby d1_19) rfl  q) ?_
  show Rch p e below _ s₁ (mkF m 21 #[.val (.ref a1), .val (.long (1 : Int64)), .second, .val (.ref a1), .val (.int (4 : Int32)), .val (.int (0 : Int32)), .unset] [(.int (0 : Int32)), (.ref a1)])
  refine Rch.go (fun _ q => ldI X0 hx hZ e0 V1 (v := (.int b0)) (by decide) rfl (g := (mkF m 21 #[.val (.ref a1), .val (.long (1 : Int64)), .second, .val (.ref a1), .val (.int (4 : Int32)), .val (.int (0 : Int32)), .unset] [(.int (0 : Int32)), (.ref a1)])) rfl rfl (hb hby d1_21) _ q) ?_
  show Rch p e below _ s₁ (mkF m 22 #[.val (.ref a1), .val (.long (1 : Int64)), .second, .val (.ref a1), .val (.int (4 : Int32)), .val (.int (0 : Int32)), .unset] [(.int b0)])
  refine Rch.go (fun _ q => XS.istore X0.here hx rfl (hb hby d1_22) rfl (l' := #[.val (.ref a1), .val (.long (1 : Int64)), .second, .val (.ref a1), .val (.int (4 : Int32)), .val (.int (0 : Int32)), .val (.int b0)]) rfl q) ?_
  show Rch p e below _ s₁ (mkF m 24 #[.val (.ref a1), .val (.long (1 : Int64)), .second, .val (.ref a1), .val (.int (4 : Int32)), .val (.int (0 : Int32)), .val (.int b0)] [])
  refine Rch.go (fun _ q => XS.lloadN X0.here hx rfl (hb hby d1_24) rfl  q) ?_
  show Rch p e below _ s₁ (mkF m 25 #[.val (.ref a1), .val (.long (1 : Int64)), .second, .val (.ref a1), .val (.int (4 : Int32)), .val (.int (0 : Int32)), .val (.int b0)] [(.long (1 : Int64))])
  refine Rch.go (fun _ q => XS.iload X0.here hx rfl (hb hby d1_25) rfl  q) ?_
  show Rch p e below _ s₁ (mkF m 27 #[.val (.ref a1), .val (.long (1 : Int64)), .second, .val (.ref a1), .val (.int (4 : Int32)), .val (.int (0 : Int32)), .val (.int b0)] [(.int b0), (.long (1 : Int64))])
  refine Rch.go (fun _ q => XS.i2l X0.here hx rfl (hb hby d1_27) rfl q) ?_
  show Rch p e below _ s₁ (mkF m 28 #[.val (.ref a1), .val (.long (1 : Int64)), .second, .val (.ref a1), .val (.int (4 : Int32)), .val (.int (0 : Int32)), .val (.int b0)] [(.long (b0.toInt64)), (.long (1 : Int64))])
  refine Rch.go (fun _ q => XS.lmul X0.here hx rfl (hb hby d1_28) rfl q) ?_
  show Rch p e below _ s₁ (mkF m 29 #[.val (.ref a1), .val (.long (1 : Int64)), .second, .val (.ref a1), .val (.int (4 : Int32)), .val (.int (0 : Int32)), .val (.int b0)] [(.long ((1 : Int64) * (b0.toInt64)))])
  refine Rch.go (fun _ q => XS.lstoreN X0.here hx rfl (hb hby d1_29) rfl (l' := #[.val (.ref a1), .val (.long ((1 : Int64) * (b0.toInt64))), .second, .val (.ref a1), .val (.int (4 : Int32)), .val (.int (0 : Int32)), .val (.int b0)]) rfl q) ?_
  show Rch p e below _ s₁ (mkF m 30 #[.val (.ref a1), .val (.long ((1 : Int64) * (b0.toInt64))), .second, .val (.ref a1), .val (.int (4 : Int32)), .val (.int (0 : Int32)), .val (.int b0)] [])
  refine Rch.go (fun _ q => XS.iinc X0.here hx rfl (hb hby d1_30) rfl (l' := #[.val (.ref a1), .val (.long ((1 : Int64) * (b0.toInt64))), .second, .val (.ref a1), .val (.int (4 : Int32)), .val (.int (1 : Int32)), .val (.int b0)]) rfl q) ?_
  show Rch p e below _ s₁ (mkF m 33 #[.val (.ref a1), .val (.long ((1 : Int64) * (b0.toInt64))), .second, .val (.ref a1), .val (.int (4 : Int32)), .val (.int (1 : Int32)), .val (.int b0)] [])
  refine Rch.go (fun _ q => XS.goto X0.here hx rfl (pc0 := 33) (pc' := 11) rfl (hb hby d1_33) (by decide) (by decide) q) ?_
  show Rch p e below _ s₁ (mkF m 11 #[.val (.ref a1), .val (.long ((1 : Int64) * (b0.toInt64))), .second, .val (.ref a1), .val (.int (4 : Int32)), .val (.int (1 : Int32)), .val (.int b0)] [])
  refine Rch.go (fun _ q => XS.iload X0.here hx rfl (hb hby d1_11) rfl  q) ?_
  show Rch p e below _ s₁ (mkF m 13 #[.val (.ref a1), .val (.long ((1 : Int64) * (b0.toInt64))), .second, .val (.ref a1), .val (.int (4 : Int32)), .val (.int (1 : Int32)), .val (.int b0)] [(.int (1 : Int32))])
  refine Rch.go (fun _ q => XS.iload X0.here hx rfl (hb hby d1_13) rfl  q) ?_
  show Rch p e below _ s₁ (mkF m 15 #[.val (.ref a1), .val (.long ((1 : Int64) * (b0.toInt64))), .second, .val (.ref a1), .val (.int (4 : Int32)), .val (.int (1 : Int32)), .val (.int b0)] [(.int (4 : Int32)), (.int (1 : Int32))])
  refine Rch.go (fun _ q => XS.icmpNo X0.here hx rfl (hb hby d1_15) rfl (tlt (by decide)).2.1 q) ?_
  show Rch p e below _ s₁ (mkF m 18 #[.val (.ref a1), .val (.long ((1 : Int64) * (b0.toInt64))), .second, .val (.ref a1), .val (.int (4 : Int32)), .val (.int (1 : Int32)), .val (.int b0)] [])
  refine Rch.go (fun _ q => XS.aloadN X0.here hx rfl (hb hby d1_18) rfl rfl q) ?_
  show Rch p e below _ s₁ (mkF m 19 #[.val (.ref a1), .val (.long ((1 : Int64) * (b0.toInt64))), .second, .val (.ref a1), .val (.int (4 : Int32)), .val (.int (1 : Int32)), .val (.int b0)] [(.ref a1)])
  refine Rch.go (fun _ q => XS.iload X0.here hx rfl (hb hby d1_19) rfl  q) ?_
  show Rch p e below _ s₁ (mkF m 21 #[.val (.ref a1), .val (.long ((1 : Int64) * (b0.toInt64))), .second, .val (.ref a1), .val (.int (4 : Int32)), .val (.int (1 : Int32)), .val (.int b0)] [(.int (1 : Int32)), (.ref a1)])
  refine Rch.go (fun _ q => ldI X0 hx hZ e0 V1 (v := (.int b1)) (by decide) rfl (g := (mkF m 21 #[.val (.ref a1), .val (.long ((1 : Int64) * (b0.toInt64))), .second, .val (.ref a1), .val (.int (4 : Int32)), .val (.int (1 : Int32)), .val (.int b0)] [(.int (1 : Int32)), (.ref a1)])) rfl rfl (hb hby d1_21) _ q) ?_
  show Rch p e below _ s₁ (mkF m 22 #[.val (.ref a1), .val (.long ((1 : Int64) * (b0.toInt64))), .second, .val (.ref a1), .val (.int (4 : Int32)), .val (.int (1 : Int32)), .val (.int b0)] [(.int b1)])
  refine Rch.go (fun _ q => XS.istore X0.here hx rfl (hb hby d1_22) rfl (l' := #[.val (.ref a1), .val (.long ((1 : Int64) * (b0.toInt64))), .second, .val (.ref a1), .val (.int (4 : Int32)), .val (.int (1 : Int32)), .val (.int b1)]) rfl q) ?_
  show Rch p e below _ s₁ (mkF m 24 #[.val (.ref a1), .val (.long ((1 : Int64) * (b0.toInt64))), .second, .val (.ref a1), .val (.int (4 : Int32)), .val (.int (1 : Int32)), .val (.int b1)] [])
  refine Rch.go (fun _ q => XS.lloadN X0.here hx rfl (hb hby d1_24) rfl  q) ?_
  show Rch p e below _ s₁ (mkF m 25 #[.val (.ref a1), .val (.long ((1 : Int64) * (b0.toInt64))), .second, .val (.ref a1), .val (.int (4 : Int32)), .val (.int (1 : Int32)), .val (.int b1)] [(.long ((1 : Int64) * (b0.toInt64)))])
  refine Rch.go (fun _ q => XS.iload X0.here hx rfl (hb hby d1_25) rfl  q) ?_
  show Rch p e below _ s₁ (mkF m 27 #[.val (.ref a1), .val (.long ((1 : Int64) * (b0.toInt64))), .second, .val (.ref a1), .val (.int (4 : Int32)), .val (.int (1 : Int32)), .val (.int b1)] [(.int b1), (.long ((1 : Int64) * (b0.toInt64)))])
  refine Rch.go (fun _ q => XS.i2l X0.here hx rfl (hb hby d1_27) rfl q) ?_
  show Rch p e below _ s₁ (mkF m 28 #[.val (.ref a1), .val (.long ((1 : Int64) * (b0.toInt64))), .second, .val (.ref a1), .val (.int (4 : Int32)), .val (.int (1 : Int32)), .val (.int b1)] [(.long (b1.toInt64)), (.long ((1 : Int64) * (b0.toInt64)))])
  refine Rch.go (fun _ q => XS.lmul X0.here hx rfl (hb hby d1_28) rfl q) ?_
  show Rch p e below _ s₁ (mkF m 29 #[.val (.ref a1), .val (.long ((1 : Int64) * (b0.toInt64))), .second, .val (.ref a1), .val (.int (4 : Int32)), .val (.int (1 : Int32)), .val (.int b1)] [(.long (((1 : Int64) * (b0.toInt64)) * (b1.toInt64)))])
  refine Rch.go (fun _ q => XS.lstoreN X0.here hx rfl (hb hby d1_29) rfl (l' := #[.val (.ref a1), .val (.long (((1 : Int64) * (b0.toInt64)) * (b1.toInt64))), .second, .val (.ref a1), .val (.int (4 : Int32)), .val (.int (1 : Int32)), .val (.int b1)]) rfl q) ?_
  show Rch p e below _ s₁ (mkF m 30 #[.val (.ref a1), .val (.long (((1 : Int64) * (b0.toInt64)) * (b1.toInt64))), .second, .val (.ref a1), .val (.int (4 : Int32)), .val (.int (1 : Int32)), .val (.int b1)] [])
  refine Rch.go (fun _ q => XS.iinc X0.here hx rfl (hb hby d1_30) rfl (l' := #[.val (.ref a1), .val (.long (((1 : Int64) * (b0.toInt64)) * (b1.toInt64))), .second, .val (.ref a1), .val (.int (4 : Int32)), .val (.int (2 : Int32)), .val (.int b1)]) rfl q) ?_
  show Rch p e below _ s₁ (mkF m 33 #[.val (.ref a1), .val (.long (((1 : Int64) * (b0.toInt64)) * (b1.toInt64))), .second, .val (.ref a1), .val (.int (4 : Int32)), .val (.int (2 : Int32)), .val (.int b1)] [])
  refine Rch.go (fun _ q => XS.goto X0.here hx rfl (pc0 := 33) (pc' := 11) rfl (hb hby d1_33) (by decide) (by decide) q) ?_
  show Rch p e below _ s₁ (mkF m 11 #[.val (.ref a1), .val (.long (((1 : Int64) * (b0.toInt64)) * (b1.toInt64))), .second, .val (.ref a1), .val (.int (4 : Int32)), .val (.int (2 : Int32)), .val (.int b1)] [])
  refine Rch.go (fun _ q => XS.iload X0.here hx rfl (hb hby d1_11) rfl  q) ?_
  show Rch p e below _ s₁ (mkF m 13 #[.val (.ref a1), .val (.long (((1 : Int64) * (b0.toInt64)) * (b1.toInt64))), .second, .val (.ref a1), .val (.int (4 : Int32)), .val (.int (2 : Int32)), .val (.int b1)] [(.int (2 : Int32))])
  refine Rch.go (fun _ q => XS.iload X0.here hx rfl (hb hby d1_13) rfl  q) ?_
  show Rch p e below _ s₁ (mkF m 15 #[.val (.ref a1), .val (.long (((1 : Int64) * (b0.toInt64)) * (b1.toInt64))), .second, .val (.ref a1), .val (.int (4 : Int32)), .val (.int (2 : Int32)), .val (.int b1)] [(.int (4 : Int32)), (.int (2 : Int32))])
  refine Rch.go (fun _ q => XS.icmpNo X0.here hx rfl (hb hby d1_15) rfl (tlt (by decide)).2.1 q) ?_
  show Rch p e below _ s₁ (mkF m 18 #[.val (.ref a1), .val (.long (((1 : Int64) * (b0.toInt64)) * (b1.toInt64))), .second, .val (.ref a1), .val (.int (4 : Int32)), .val (.int (2 : Int32)), .val (.int b1)] [])
  refine Rch.go (fun _ q => XS.aloadN X0.here hx rfl (hb hby d1_18) rfl rfl q) ?_
  show Rch p e below _ s₁ (mkF m 19 #[.val (.ref a1), .val (.long (((1 : Int64) * (b0.toInt64)) * (b1.toInt64))), .second, .val (.ref a1), .val (.int (4 : Int32)), .val (.int (2 : Int32)), .val (.int b1)] [(.ref a1)])
  refine Rch.go (fun _ q => XS.iload X0.here hx rfl (hb hby d1_19) rfl  q) ?_
  show Rch p e below _ s₁ (mkF m 21 #[.val (.ref a1), .val (.long (((1 : Int64) * (b0.toInt64)) * (b1.toInt64))), .second, .val (.ref a1), .val (.int (4 : Int32)), .val (.int (2 : Int32)), .val (.int b1)] [(.int (2 : Int32)), (.ref a1)])
  refine Rch.go (fun _ q => ldI X0 hx hZ e0 V1 (v := (.int b2)) (by decide) rfl (g := (mkF m 21 #[.val (.ref a1), .val (.long (((1 : Int64) * (b0.toInt64)) * (b1.toInt64))), .second, .val (.ref a1), .val (.int (4 : Int32)), .val (.int (2 : Int32)), .val (.int b1)] [(.int (2 : Int32)), (.ref a1)])) rfl rfl (hb hby d1_21) _ q) ?_
  show Rch p e below _ s₁ (mkF m 22 #[.val (.ref a1), .val (.long (((1 : Int64) * (b0.toInt64)) * (b1.toInt64))), .second, .val (.ref a1), .val (.int (4 : Int32)), .val (.int (2 : Int32)), .val (.int b1)] [(.int b2)])
  refine Rch.go (fun _ q => XS.istore X0.here hx rfl (hb hby d1_22) rfl (l' := #[.val (.ref a1), .val (.long (((1 : Int64) * (b0.toInt64)) * (b1.toInt64))), .second, .val (.ref a1), .val (.int (4 : Int32)), .val (.int (2 : Int32)), .val (.int b2)]) rfl q) ?_
  show Rch p e below _ s₁ (mkF m 24 #[.val (.ref a1), .val (.long (((1 : Int64) * (b0.toInt64)) * (b1.toInt64))), .second, .val (.ref a1), .val (.int (4 : Int32)), .val (.int (2 : Int32)), .val (.int b2)] [])
  refine Rch.go (fun _ q => XS.lloadN X0.here hx rfl (hb hby d1_24) rfl  q) ?_
  show Rch p e below _ s₁ (mkF m 25 #[.val (.ref a1), .val (.long (((1 : Int64) * (b0.toInt64)) * (b1.toInt64))), .second, .val (.ref a1), .val (.int (4 : Int32)), .val (.int (2 : Int32)), .val (.int b2)] [(.long (((1 : Int64) * (b0.toInt64)) * (b1.toInt64)))])
  refine Rch.go (fun _ q => XS.iload X0.here hx rfl (hb hby d1_25) rfl  q) ?_
  show Rch p e below _ s₁ (mkF m 27 #[.val (.ref a1), .val (.long (((1 : Int64) * (b0.toInt64)) * (b1.toInt64))), .second, .val (.ref a1), .val (.int (4 : Int32)), .val (.int (2 : Int32)), .val (.int b2)] [(.int b2), (.long (((1 : Int64) * (b0.toInt64)) * (b1.toInt64)))])
  refine Rch.go (fun _ q => XS.i2l X0.here hx rfl (hb hby d1_27) rfl q) ?_
  show Rch p e below _ s₁ (mkF m 28 #[.val (.ref a1), .val (.long (((1 : Int64) * (b0.toInt64)) * (b1.toInt64))), .second, .val (.ref a1), .val (.int (4 : Int32)), .val (.int (2 : Int32)), .val (.int b2)] [(.long (b2.toInt64)), (.long (((1 : Int64) * (b0.toInt64)) * (b1.toInt64)))])
  refine Rch.go (fun _ q => XS.lmul X0.here hx rfl (hb hby d1_28) rfl q) ?_
  show Rch p e below _ s₁ (mkF m 29 #[.val (.ref a1), .val (.long (((1 : Int64) * (b0.toInt64)) * (b1.toInt64))), .second, .val (.ref a1), .val (.int (4 : Int32)), .val (.int (2 : Int32)), .val (.int b2)] [(.long ((((1 : Int64) * (b0.toInt64)) * (b1.toInt64)) * (b2.toInt64)))])
  refine Rch.go (fun _ q => XS.lstoreN X0.here hx rfl (hb hby d1_29) rfl (l' := #[.val (.ref a1), .val (.long ((((1 : Int64) * (b0.toInt64)) * (b1.toInt64)) * (b2.toInt64))), .second, .val (.ref a1), .val (.int (4 : Int32)), .val (.int (2 : Int32)), .val (.int b2)]) rfl q) ?_
  show Rch p e below _ s₁ (mkF m 30 #[.val (.ref a1), .val (.long ((((1 : Int64) * (b0.toInt64)) * (b1.toInt64)) * (b2.toInt64))), .second, .val (.ref a1), .val (.int (4 : Int32)), .val (.int (2 : Int32)), .val (.int b2)] [])
  refine Rch.go (fun _ q => XS.iinc X0.here hx rfl (hb hby d1_30) rfl (l' := #[.val (.ref a1), .val (.long ((((1 : Int64) * (b0.toInt64)) * (b1.toInt64)) * (b2.toInt64))), .second, .val (.ref a1), .val (.int (4 : Int32)), .val (.int (3 : Int32)), .val (.int b2)]) rfl q) ?_
  show Rch p e below _ s₁ (mkF m 33 #[.val (.ref a1), .val (.long ((((1 : Int64) * (b0.toInt64)) * (b1.toInt64)) * (b2.toInt64))), .second, .val (.ref a1), .val (.int (4 : Int32)), .val (.int (3 : Int32)), .val (.int b2)] [])
  refine Rch.go (fun _ q => XS.goto X0.here hx rfl (pc0 := 33) (pc' := 11) rfl (hb hby d1_33) (by decide) (by decide) q) ?_
  show Rch p e below _ s₁ (mkF m 11 #[.val (.ref a1), .val (.long ((((1 : Int64) * (b0.toInt64)) * (b1.toInt64)) * (b2.toInt64))), .second, .val (.ref a1), .val (.int (4 : Int32)), .val (.int (3 : Int32)), .val (.int b2)] [])
  refine Rch.go (fun _ q => XS.iload X0.here hx rfl (hb hby d1_11) rfl  q) ?_
  show Rch p e below _ s₁ (mkF m 13 #[.val (.ref a1), .val (.long ((((1 : Int64) * (b0.toInt64)) * (b1.toInt64)) * (b2.toInt64))), .second, .val (.ref a1), .val (.int (4 : Int32)), .val (.int (3 : Int32)), .val (.int b2)] [(.int (3 : Int32))])
  refine Rch.go (fun _ q => XS.iload X0.here hx rfl (hb hby d1_13) rfl  q) ?_
  show Rch p e below _ s₁ (mkF m 15 #[.val (.ref a1), .val (.long ((((1 : Int64) * (b0.toInt64)) * (b1.toInt64)) * (b2.toInt64))), .second, .val (.ref a1), .val (.int (4 : Int32)), .val (.int (3 : Int32)), .val (.int b2)] [(.int (4 : Int32)), (.int (3 : Int32))])
  refine Rch.go (fun _ q => XS.icmpNo X0.here hx rfl (hb hby d1_15) rfl (tlt (by decide)).2.1 q) ?_
  show Rch p e below _ s₁ (mkF m 18 #[.val (.ref a1), .val (.long ((((1 : Int64) * (b0.toInt64)) * (b1.toInt64)) * (b2.toInt64))), .second, .val (.ref a1), .val (.int (4 : Int32)), .val (.int (3 : Int32)), .val (.int b2)] [])
  refine Rch.go (fun _ q => XS.aloadN X0.here hx rfl (hb hby d1_18) rfl rfl q) ?_
  show Rch p e below _ s₁ (mkF m 19 #[.val (.ref a1), .val (.long ((((1 : Int64) * (b0.toInt64)) * (b1.toInt64)) * (b2.toInt64))), .second, .val (.ref a1), .val (.int (4 : Int32)), .val (.int (3 : Int32)), .val (.int b2)] [(.ref a1)])
  refine Rch.go (fun _ q => XS.iload X0.here hx rfl (hb hby d1_19) rfl  q) ?_
  show Rch p e below _ s₁ (mkF m 21 #[.val (.ref a1), .val (.long ((((1 : Int64) * (b0.toInt64)) * (b1.toInt64)) * (b2.toInt64))), .second, .val (.ref a1), .val (.int (4 : Int32)), .val (.int (3 : Int32)), .val (.int b2)] [(.int (3 : Int32)), (.ref a1)])
  refine Rch.go (fun _ q => ldI X0 hx hZ e0 V1 (v := (.int b3)) (by decide) rfl (g := (mkF m 21 #[.val (.ref a1), .val (.long ((((1 : Int64) * (b0.toInt64)) * (b1.toInt64)) * (b2.toInt64))), .second, .val (.ref a1), .val (.int (4 : Int32)), .val (.int (3 : Int32)), .val (.int b2)] [(.int (3 : Int32)), (.ref a1)])) rfl rfl (hb hby d1_21) _ q) ?_
  show Rch p e below _ s₁ (mkF m 22 #[.val (.ref a1), .val (.long ((((1 : Int64) * (b0.toInt64)) * (b1.toInt64)) * (b2.toInt64))), .second, .val (.ref a1), .val (.int (4 : Int32)), .val (.int (3 : Int32)), .val (.int b2)] [(.int b3)])
  refine Rch.go (fun _ q => XS.istore X0.here hx rfl (hb hby d1_22) rfl (l' := #[.val (.ref a1), .val (.long ((((1 : Int64) * (b0.toInt64)) * (b1.toInt64)) * (b2.toInt64))), .second, .val (.ref a1), .val (.int (4 : Int32)), .val (.int (3 : Int32)), .val (.int b3)]) rfl q) ?_
  show Rch p e below _ s₁ (mkF m 24 #[.val (.ref a1), .val (.long ((((1 : Int64) * (b0.toInt64)) * (b1.toInt64)) * (b2.toInt64))), .second, .val (.ref a1), .val (.int (4 : Int32)), .val (.int (3 : Int32)), .val (.int b3)] [])
  refine Rch.go (fun _ q => XS.lloadN X0.here hx rfl (hb hby d1_24) rfl  q) ?_
  show Rch p e below _ s₁ (mkF m 25 #[.val (.ref a1), .val (.long ((((1 : Int64) * (b0.toInt64)) * (b1.toInt64)) * (b2.toInt64))), .second, .val (.ref a1), .val (.int (4 : Int32)), .val (.int (3 : Int32)), .val (.int b3)] [(.long ((((1 : Int64) * (b0.toInt64)) * (b1.toInt64)) * (b2.toInt64)))])
  refine Rch.go (fun _ q => XS.iload X0.here hx rfl (hb hby d1_25) rfl  q) ?_
  show Rch p e below _ s₁ (mkF m 27 #[.val (.ref a1), .val (.long ((((1 : Int64) * (b0.toInt64)) * (b1.toInt64)) * (b2.toInt64))), .second, .val (.ref a1), .val (.int (4 : Int32)), .val (.int (3 : Int32)), .val (.int b3)] [(.int b3), (.long ((((1 : Int64) * (b0.toInt64)) * (b1.toInt64)) * (b2.toInt64)))])
  refine Rch.go (fun _ q => XS.i2l X0.here hx rfl (hb hby d1_27) rfl q) ?_
  show Rch p e below _ s₁ (mkF m 28 #[.val (.ref a1), .val (.long ((((1 : Int64) * (b0.toInt64)) * (b1.toInt64)) * (b2.toInt64))), .second, .val (.ref a1), .val (.int (4 : Int32)), .val (.int (3 : Int32)), .val (.int b3)] [(.long (b3.toInt64)), (.long ((((1 : Int64) * (b0.toInt64)) * (b1.toInt64)) * (b2.toInt64)))])
  refine Rch.go (fun _ q => XS.lmul X0.here hx rfl (hb hby d1_28) rfl q) ?_
  show Rch p e below _ s₁ (mkF m 29 #[.val (.ref a1), .val (.long ((((1 : Int64) * (b0.toInt64)) * (b1.toInt64)) * (b2.toInt64))), .second, .val (.ref a1), .val (.int (4 : Int32)), .val (.int (3 : Int32)), .val (.int b3)] [(.long (((((1 : Int64) * (b0.toInt64)) * (b1.toInt64)) * (b2.toInt64)) * (b3.toInt64)))])
  refine Rch.go (fun _ q => XS.lstoreN X0.here hx rfl (hb hby d1_29) rfl (l' := #[.val (.ref a1), .val (.long (((((1 : Int64) * (b0.toInt64)) * (b1.toInt64)) * (b2.toInt64)) * (b3.toInt64))), .second, .val (.ref a1), .val (.int (4 : Int32)), .val (.int (3 : Int32)), .val (.int b3)]) rfl q) ?_
  show Rch p e below _ s₁ (mkF m 30 #[.val (.ref a1), .val (.long (((((1 : Int64) * (b0.toInt64)) * (b1.toInt64)) * (b2.toInt64)) * (b3.toInt64))), .second, .val (.ref a1), .val (.int (4 : Int32)), .val (.int (3 : Int32)), .val (.int b3)] [])
  refine Rch.go (fun _ q => XS.iinc X0.here hx rfl (hb hby d1_30) rfl (l' := #[.val (.ref a1), .val (.long (((((1 : Int64) * (b0.toInt64)) * (b1.toInt64)) * (b2.toInt64)) * (b3.toInt64))), .second, .val (.ref a1), .val (.int (4 : Int32)), .val (.int (4 : Int32)), .val (.int b3)]) rfl q) ?_
  show Rch p e below _ s₁ (mkF m 33 #[.val (.ref a1), .val (.long (((((1 : Int64) * (b0.toInt64)) * (b1.toInt64)) * (b2.toInt64)) * (b3.toInt64))), .second, .val (.ref a1), .val (.int (4 : Int32)), .val (.int (4 : Int32)), .val (.int b3)] [])
  refine Rch.go (fun _ q => XS.goto X0.here hx rfl (pc0 := 33) (pc' := 11) rfl (hb hby d1_33) (by decide) (by decide) q) ?_
  show Rch p e below _ s₁ (mkF m 11 #[.val (.ref a1), .val (.long (((((1 : Int64) * (b0.toInt64)) * (b1.toInt64)) * (b2.toInt64)) * (b3.toInt64))), .second, .val (.ref a1), .val (.int (4 : Int32)), .val (.int (4 : Int32)), .val (.int b3)] [])
  refine Rch.go (fun _ q => XS.iload X0.here hx rfl (hb hby d1_11) rfl  q) ?_
  show Rch p e below _ s₁ (mkF m 13 #[.val (.ref a1), .val (.long (((((1 : Int64) * (b0.toInt64)) * (b1.toInt64)) * (b2.toInt64)) * (b3.toInt64))), .second, .val (.ref a1), .val (.int (4 : Int32)), .val (.int (4 : Int32)), .val (.int b3)] [(.int (4 : Int32))])
  refine Rch.go (fun _ q => XS.iload X0.here hx rfl (hb hby d1_13) rfl  q) ?_
  show Rch p e below _ s₁ (mkF m 15 #[.val (.ref a1), .val (.long (((((1 : Int64) * (b0.toInt64)) * (b1.toInt64)) * (b2.toInt64)) * (b3.toInt64))), .second, .val (.ref a1), .val (.int (4 : Int32)), .val (.int (4 : Int32)), .val (.int b3)] [(.int (4 : Int32)), (.int (4 : Int32))])
  refine Rch.go (fun _ q => XS.icmpYes X0.here hx rfl (pc0 := 15) (pc' := 36) rfl (hb hby d1_15) rfl (flt (by decide)).2.1 (by decide) (by decide) q) ?_
  show Rch p e below _ s₁ (mkF m 36 #[.val (.ref a1), .val (.long (((((1 : Int64) * (b0.toInt64)) * (b1.toInt64)) * (b2.toInt64)) * (b3.toInt64))), .second, .val (.ref a1), .val (.int (4 : Int32)), .val (.int (4 : Int32)), .val (.int b3)] [])
  refine Rch.go (fun _ q => XS.lloadN X0.here hx rfl (hb hby d1_36) rfl  q) ?_
  show Rch p e below _ s₁ (mkF m 37 #[.val (.ref a1), .val (.long (((((1 : Int64) * (b0.toInt64)) * (b1.toInt64)) * (b2.toInt64)) * (b3.toInt64))), .second, .val (.ref a1), .val (.int (4 : Int32)), .val (.int (4 : Int32)), .val (.int b3)] [(.long (((((1 : Int64) * (b0.toInt64)) * (b1.toInt64)) * (b2.toInt64)) * (b3.toInt64)))])
  refine Rch.retJ X0 hx hlk Bd.returns (hb hby d1_37) (by decide) (by decide) ?_
  unfold Qrm1_4
  exact ⟨rfl, N0, e0⟩
theorem own_pn1 : plainFor x = true := by first | exact plainFor_of_name (by first | (simp [plainName, overriddenIn]; done) | decide +kernel) | decide +kernel
theorem own_pd1 : parseMethodDescriptor "(IIIII)Z" = some ⟨[.int, .int, .int, .int, .int], some .boolean⟩ := by decide +kernel
theorem own_ef6 (m : MethodId) (x0 : Int32) (x1 : Int32) (x2 : Int32) (x3 : Int32) (x4 : Int32) : entryFrame m #[(.int x0), (.int x1), (.int x2), (.int x3), (.int x4)] maxLocals = mkF m 0 #[.val (.int x0), .val (.int x1), .val (.int x2), .val (.int x3), .val (.int x4), .unset, .unset, .unset, .unset] [] := by first | (simp [entryFrame, mkF, argsToLocals, Value.category, maxLocals]; done) | rfl
def Qrm0 (Z : State) (p1 : Int32) (p2 : Int32) (p3 : Int32) (p4 : Int32) (p5 : Int32)  (h0 : Heap) (n0 : Nat) : Option Value → Heap → List Loc → Prop := fun v h L => v = some (.int 1) ∧ Fr n0 L
set_option maxRecDepth 65536 in
set_option maxHeartbeats 40000000 in
theorem rm0 (l : Launch) (Z : State) (a0 : Array Value) (hw : ∀ d ∈ tables_1, d.before a0 Z = true) (ws : List Jvm.Cond) (p1 : Int32) (p2 : Int32) (p3 : Int32) (p4 : Int32) (p5 : Int32)  (h0 : Heap) (n0 : Nat) (Z0 : n0 ≤ h0.size)  :
    MetFree l x (head1 (Jvm.Cond.code x code maxLocals ret :: ws) room_1) (fun a U => a = #[(.int p1), (.int p2), (.int p3), (.int p4), (.int p5)] ∧ Z.Warmed39 U.vm ∧ U.heap = h0) (fun _ _ _ _ _ => True) (fun _ U o U' => ∃ v L, o = .returned v ∧ (Qrm0 Z p1 p2 p3 p4 p5  h0 n0) v U'.heap L ∧ FrameEnd U o U' L room_1.cells room_1.slots) := by
  refine MetFree.of_bodySF own_pn1 hisR ?_
  intro p e s m args below meth c s₁ Bd hml0 hP hK
  obtain ⟨rfl, hZ, hh⟩ := hP
  have hx := Bd.exec
  have hby := Bd.bytes
  have hlk := Bd.notSynchronized
  have hml : c.maxLocals = 9 := hml0
  have hown : s.vm.findClass "com/example/heverlee/heverlee/engine/FactorEntriesPinLaw" = some m.cls := findClass_of_methodNamed Bd.named
  have hnm := (name_of_methodNamed Bd.named Bd.method).1
  have X0 : Stand p l e room_1 s m #[(.int p1), (.int p2), (.int p3), (.int p4), (.int p5)] below meth c s₁ [] 0 0 := Stand.of_body Bd
  have e0 : s₁.heap = h0 := by rw [← hh, Bd.state]; rfl
  have N0 := Fr.nil n0
  refine Rch.entry (G := (EndQ (Qrm0 Z p1 p2 p3 p4 p5  h0 n0) s room_1.cells room_1.slots)) (own_ef6 m p1 p2 p3 p4 p5) ?_
  have hbool : ∀ x : Int32, nar .boolean x = x &&& 1 := fun _ => rfl
  show Rch p e below _ s₁ (mkF m 0 #[.val (.int p1), .val (.int p2), .val (.int p3), .val (.int p4), .val (.int p5), .unset, .unset, .unset, .unset] [])
  refine Rch.go (fun _ q => XS.iloadN X0.here hx rfl (hb hby at_0) rfl  q) ?_
  show Rch p e below _ s₁ (mkF m 1 #[.val (.int p1), .val (.int p2), .val (.int p3), .val (.int p4), .val (.int p5), .unset, .unset, .unset, .unset] [(.int p1)])
  refine Rch.go (fun _ q => X0.ldcI hx (own := "com/example/heverlee/heverlee/engine/FactorEntriesPinLaw") hown (mvT hZ (hw _ (List.mem_of_getElem? (i := 0) rfl))) rfl (hb hby at_1) q) ?_
  show Rch p e below _ s₁ (mkF m 3 #[.val (.int p1), .val (.int p2), .val (.int p3), .val (.int p4), .val (.int p5), .unset, .unset, .unset, .unset] [(.int (2147483647 : Int32)), (.int p1)])
  refine Rch.go (fun _ q => XS.iand X0.here hx rfl (hb hby at_3) rfl q) ?_
  show Rch p e below _ s₁ (mkF m 4 #[.val (.int p1), .val (.int p2), .val (.int p3), .val (.int p4), .val (.int p5), .unset, .unset, .unset, .unset] [(.int (p1 &&& (2147483647 : Int32)))])
  refine Rch.go (fun _ q => XS.iconst X0.here hx rfl (hb hby at_4) q) ?_
  show Rch p e below _ s₁ (mkF m 5 #[.val (.int p1), .val (.int p2), .val (.int p3), .val (.int p4), .val (.int p5), .unset, .unset, .unset, .unset] [(.int (5 : Int32)), (.int (p1 &&& (2147483647 : Int32)))])
  refine Rch.go (fun _ q => iremM X0 hx rfl (hb hby at_5) rfl (by decide) q) ?_
  show Rch p e below _ s₁ (mkF m 6 #[.val (.int p1), .val (.int p2), .val (.int p3), .val (.int p4), .val (.int p5), .unset, .unset, .unset, .unset] [(.int ((p1 &&& (2147483647 : Int32)) % (5 : Int32)))])
  refine Rch.go (fun _ q => XS.istore X0.here hx rfl (hb hby at_6) rfl (l' := #[.val (.int p1), .val (.int p2), .val (.int p3), .val (.int p4), .val (.int p5), .val (.int ((p1 &&& (2147483647 : Int32)) % (5 : Int32))), .unset, .unset, .unset]) rfl q) ?_
  show Rch p e below _ s₁ (mkF m 8 #[.val (.int p1), .val (.int p2), .val (.int p3), .val (.int p4), .val (.int p5), .val (.int ((p1 &&& (2147483647 : Int32)) % (5 : Int32))), .unset, .unset, .unset] [])
  rcases own_rem5 p1 with hr | hr | hr | hr | hr
  · rw [hr]
    show Rch p e below _ s₁ (mkF m 8 #[.val (.int p1), .val (.int p2), .val (.int p3), .val (.int p4), .val (.int p5), .val (.int (0 : Int32)), .unset, .unset, .unset] [])
    refine Rch.go (fun _ q => XS.iload X0.here hx rfl (hb hby at_8) rfl  q) ?_
    show Rch p e below _ s₁ (mkF m 10 #[.val (.int p1), .val (.int p2), .val (.int p3), .val (.int p4), .val (.int p5), .val (.int (0 : Int32)), .unset, .unset, .unset] [(.int (0 : Int32))])
    obtain ⟨T101, h101, kk_aa, X101, e101, E101, V101, st101⟩ := naw X0 hx hZ (hw _ (List.mem_of_getElem? (i := 1) rfl)) e0 (g := (mkF m 10 #[.val (.int p1), .val (.int p2), .val (.int p3), .val (.int p4), .val (.int p5), .val (.int (0 : Int32)), .unset, .unset, .unset] [(.int (0 : Int32))])) rfl (hb hby at_10) rfl (by decide) 0 (cap := 0) (by decide) (by decide) (by decide) (by decide)
    obtain ⟨aa, g101⟩ : ∃ q, q = Array.size h0 := ⟨_, rfl⟩
    rw [← g101] at V101 st101
    have V_aa_101 : Arv Z h101 aa kk_aa .int (0 : Int32) [] (.int 0) := V101
    have le_aa : n0 ≤ aa := by rw [g101]; exact Z0
    have Z101 : n0 ≤ h101.size := Nat.le_trans Z0 E101.1
    refine Rch.go st101 ?_
    show Rch p e below _ T101 (mkF m 12 #[.val (.int p1), .val (.int p2), .val (.int p3), .val (.int p4), .val (.int p5), .val (.int (0 : Int32)), .unset, .unset, .unset] [(.ref aa)])
    refine Rch.go (fun _ q => XS.astore X101.here hx rfl (hb hby at_12) rfl rfl (l' := #[.val (.int p1), .val (.int p2), .val (.int p3), .val (.int p4), .val (.int p5), .val (.int (0 : Int32)), .val (.ref aa), .unset, .unset]) rfl q) ?_
    show Rch p e below _ T101 (mkF m 14 #[.val (.int p1), .val (.int p2), .val (.int p3), .val (.int p4), .val (.int p5), .val (.int (0 : Int32)), .val (.ref aa), .unset, .unset] [])
    refine Rch.go (fun _ q => XS.iload X101.here hx rfl (hb hby at_14) rfl  q) ?_
    show Rch p e below _ T101 (mkF m 16 #[.val (.int p1), .val (.int p2), .val (.int p3), .val (.int p4), .val (.int p5), .val (.int (0 : Int32)), .val (.ref aa), .unset, .unset] [(.int (0 : Int32))])
    refine Rch.go (fun _ q => XS.iconst X101.here hx rfl (hb hby at_16) q) ?_
    show Rch p e below _ T101 (mkF m 17 #[.val (.int p1), .val (.int p2), .val (.int p3), .val (.int p4), .val (.int p5), .val (.int (0 : Int32)), .val (.ref aa), .unset, .unset] [(.int (1 : Int32)), (.int (0 : Int32))])
    refine Rch.go (fun _ q => XS.icmpYes X101.here hx rfl (pc0 := 17) (pc' := 25) rfl (hb hby at_17) rfl (tlt (by decide)).1 (by decide) (by decide) q) ?_
    show Rch p e below _ T101 (mkF m 25 #[.val (.int p1), .val (.int p2), .val (.int p3), .val (.int p4), .val (.int p5), .val (.int (0 : Int32)), .val (.ref aa), .unset, .unset] [])
    refine Rch.go (fun _ q => XS.iload X101.here hx rfl (hb hby at_25) rfl  q) ?_
    show Rch p e below _ T101 (mkF m 27 #[.val (.int p1), .val (.int p2), .val (.int p3), .val (.int p4), .val (.int p5), .val (.int (0 : Int32)), .val (.ref aa), .unset, .unset] [(.int (0 : Int32))])
    refine Rch.go (fun _ q => XS.iconst X101.here hx rfl (hb hby at_27) q) ?_
    show Rch p e below _ T101 (mkF m 28 #[.val (.int p1), .val (.int p2), .val (.int p3), .val (.int p4), .val (.int p5), .val (.int (0 : Int32)), .val (.ref aa), .unset, .unset] [(.int (2 : Int32)), (.int (0 : Int32))])
    refine Rch.go (fun _ q => XS.icmpYes X101.here hx rfl (pc0 := 28) (pc' := 36) rfl (hb hby at_28) rfl (tlt (by decide)).1 (by decide) (by decide) q) ?_
    show Rch p e below _ T101 (mkF m 36 #[.val (.int p1), .val (.int p2), .val (.int p3), .val (.int p4), .val (.int p5), .val (.int (0 : Int32)), .val (.ref aa), .unset, .unset] [])
    refine Rch.go (fun _ q => XS.iload X101.here hx rfl (hb hby at_36) rfl  q) ?_
    show Rch p e below _ T101 (mkF m 38 #[.val (.int p1), .val (.int p2), .val (.int p3), .val (.int p4), .val (.int p5), .val (.int (0 : Int32)), .val (.ref aa), .unset, .unset] [(.int (0 : Int32))])
    refine Rch.go (fun _ q => XS.iconst X101.here hx rfl (hb hby at_38) q) ?_
    show Rch p e below _ T101 (mkF m 39 #[.val (.int p1), .val (.int p2), .val (.int p3), .val (.int p4), .val (.int p5), .val (.int (0 : Int32)), .val (.ref aa), .unset, .unset] [(.int (3 : Int32)), (.int (0 : Int32))])
    refine Rch.go (fun _ q => XS.icmpYes X101.here hx rfl (pc0 := 39) (pc' := 47) rfl (hb hby at_39) rfl (tlt (by decide)).1 (by decide) (by decide) q) ?_
    show Rch p e below _ T101 (mkF m 47 #[.val (.int p1), .val (.int p2), .val (.int p3), .val (.int p4), .val (.int p5), .val (.int (0 : Int32)), .val (.ref aa), .unset, .unset] [])
    refine Rch.go (fun _ q => XS.iload X101.here hx rfl (hb hby at_47) rfl  q) ?_
    show Rch p e below _ T101 (mkF m 49 #[.val (.int p1), .val (.int p2), .val (.int p3), .val (.int p4), .val (.int p5), .val (.int (0 : Int32)), .val (.ref aa), .unset, .unset] [(.int (0 : Int32))])
    refine Rch.go (fun _ q => XS.iconst X101.here hx rfl (hb hby at_49) q) ?_
    show Rch p e below _ T101 (mkF m 50 #[.val (.int p1), .val (.int p2), .val (.int p3), .val (.int p4), .val (.int p5), .val (.int (0 : Int32)), .val (.ref aa), .unset, .unset] [(.int (4 : Int32)), (.int (0 : Int32))])
    refine Rch.go (fun _ q => XS.icmpYes X101.here hx rfl (pc0 := 50) (pc' := 59) rfl (hb hby at_50) rfl (tlt (by decide)).1 (by decide) (by decide) q) ?_
    show Rch p e below _ T101 (mkF m 59 #[.val (.int p1), .val (.int p2), .val (.int p3), .val (.int p4), .val (.int p5), .val (.int (0 : Int32)), .val (.ref aa), .unset, .unset] [])
    refine Rch.go (fun _ q => XS.lconst X101.here hx rfl (hb hby at_59) q) ?_
    show Rch p e below _ T101 (mkF m 60 #[.val (.int p1), .val (.int p2), .val (.int p3), .val (.int p4), .val (.int p5), .val (.int (0 : Int32)), .val (.ref aa), .unset, .unset] [(.long (1 : Int64))])
    refine Rch.go (fun _ q => XS.lstore X101.here hx rfl (hb hby at_60) rfl (l' := #[.val (.int p1), .val (.int p2), .val (.int p3), .val (.int p4), .val (.int p5), .val (.int (0 : Int32)), .val (.ref aa), .val (.long (1 : Int64)), .second]) rfl q) ?_
    show Rch p e below _ T101 (mkF m 62 #[.val (.int p1), .val (.int p2), .val (.int p3), .val (.int p4), .val (.int p5), .val (.int (0 : Int32)), .val (.ref aa), .val (.long (1 : Int64)), .second] [])
    refine Rch.go (fun _ q => XS.iload X101.here hx rfl (hb hby at_62) rfl  q) ?_
    show Rch p e below _ T101 (mkF m 64 #[.val (.int p1), .val (.int p2), .val (.int p3), .val (.int p4), .val (.int p5), .val (.int (0 : Int32)), .val (.ref aa), .val (.long (1 : Int64)), .second] [(.int (0 : Int32))])
    refine Rch.go (fun _ q => XS.iconst X101.here hx rfl (hb hby at_64) q) ?_
    show Rch p e below _ T101 (mkF m 65 #[.val (.int p1), .val (.int p2), .val (.int p3), .val (.int p4), .val (.int p5), .val (.int (0 : Int32)), .val (.ref aa), .val (.long (1 : Int64)), .second] [(.int (4 : Int32)), (.int (0 : Int32))])
    refine Rch.go (fun _ q => XS.icmpYes X101.here hx rfl (pc0 := 65) (pc' := 76) rfl (hb hby at_65) rfl (tlt (by decide)).1 (by decide) (by decide) q) ?_
    show Rch p e below _ T101 (mkF m 76 #[.val (.int p1), .val (.int p2), .val (.int p3), .val (.int p4), .val (.int p5), .val (.int (0 : Int32)), .val (.ref aa), .val (.long (1 : Int64)), .second] [])
    refine Rch.go (fun _ q => XS.iload X101.here hx rfl (hb hby at_76) rfl  q) ?_
    show Rch p e below _ T101 (mkF m 78 #[.val (.int p1), .val (.int p2), .val (.int p3), .val (.int p4), .val (.int p5), .val (.int (0 : Int32)), .val (.ref aa), .val (.long (1 : Int64)), .second] [(.int (0 : Int32))])
    refine Rch.go (fun _ q => XS.iconst X101.here hx rfl (hb hby at_78) q) ?_
    show Rch p e below _ T101 (mkF m 79 #[.val (.int p1), .val (.int p2), .val (.int p3), .val (.int p4), .val (.int p5), .val (.int (0 : Int32)), .val (.ref aa), .val (.long (1 : Int64)), .second] [(.int (3 : Int32)), (.int (0 : Int32))])
    refine Rch.go (fun _ q => XS.icmpYes X101.here hx rfl (pc0 := 79) (pc' := 89) rfl (hb hby at_79) rfl (tlt (by decide)).1 (by decide) (by decide) q) ?_
    show Rch p e below _ T101 (mkF m 89 #[.val (.int p1), .val (.int p2), .val (.int p3), .val (.int p4), .val (.int p5), .val (.int (0 : Int32)), .val (.ref aa), .val (.long (1 : Int64)), .second] [])
    refine Rch.go (fun _ q => XS.iload X101.here hx rfl (hb hby at_89) rfl  q) ?_
    show Rch p e below _ T101 (mkF m 91 #[.val (.int p1), .val (.int p2), .val (.int p3), .val (.int p4), .val (.int p5), .val (.int (0 : Int32)), .val (.ref aa), .val (.long (1 : Int64)), .second] [(.int (0 : Int32))])
    refine Rch.go (fun _ q => XS.iconst X101.here hx rfl (hb hby at_91) q) ?_
    show Rch p e below _ T101 (mkF m 92 #[.val (.int p1), .val (.int p2), .val (.int p3), .val (.int p4), .val (.int p5), .val (.int (0 : Int32)), .val (.ref aa), .val (.long (1 : Int64)), .second] [(.int (2 : Int32)), (.int (0 : Int32))])
    refine Rch.go (fun _ q => XS.icmpYes X101.here hx rfl (pc0 := 92) (pc' := 102) rfl (hb hby at_92) rfl (tlt (by decide)).1 (by decide) (by decide) q) ?_
    show Rch p e below _ T101 (mkF m 102 #[.val (.int p1), .val (.int p2), .val (.int p3), .val (.int p4), .val (.int p5), .val (.int (0 : Int32)), .val (.ref aa), .val (.long (1 : Int64)), .second] [])
    refine Rch.go (fun _ q => XS.iload X101.here hx rfl (hb hby at_102) rfl  q) ?_
    show Rch p e below _ T101 (mkF m 104 #[.val (.int p1), .val (.int p2), .val (.int p3), .val (.int p4), .val (.int p5), .val (.int (0 : Int32)), .val (.ref aa), .val (.long (1 : Int64)), .second] [(.int (0 : Int32))])
    refine Rch.go (fun _ q => XS.iconst X101.here hx rfl (hb hby at_104) q) ?_
    show Rch p e below _ T101 (mkF m 105 #[.val (.int p1), .val (.int p2), .val (.int p3), .val (.int p4), .val (.int p5), .val (.int (0 : Int32)), .val (.ref aa), .val (.long (1 : Int64)), .second] [(.int (1 : Int32)), (.int (0 : Int32))])
    refine Rch.go (fun _ q => XS.icmpYes X101.here hx rfl (pc0 := 105) (pc' := 115) rfl (hb hby at_105) rfl (tlt (by decide)).1 (by decide) (by decide) q) ?_
    show Rch p e below _ T101 (mkF m 115 #[.val (.int p1), .val (.int p2), .val (.int p3), .val (.int p4), .val (.int p5), .val (.int (0 : Int32)), .val (.ref aa), .val (.long (1 : Int64)), .second] [])
    refine Rch.go (fun _ q => XS.aload X101.here hx rfl (hb hby at_115) rfl rfl q) ?_
    show Rch p e below _ T101 (mkF m 117 #[.val (.int p1), .val (.int p2), .val (.int p3), .val (.int p4), .val (.int p5), .val (.int (0 : Int32)), .val (.ref aa), .val (.long (1 : Int64)), .second] [(.ref aa)])
    obtain ⟨_, _, ⟨T102, L102, k102, n102⟩, -, X102, ⟨Lc102, hQ102, l102, y102, z102⟩, st102⟩ := Jvm.LawKit.callS X101 hx (y := (⟨"com/example/heverlee/heverlee/engine/Factor", "entries", "([I)J"⟩ : MethodName)) hown (mvT hZ (hw _ (List.mem_of_getElem? (i := 2) rfl))) (mvT hZ (hw _ (List.mem_of_getElem? (i := 3) rfl))) (mvT hZ (hw _ (List.mem_of_getElem? (i := 4) rfl))) (mvT hZ (hw _ (List.mem_of_getElem? (i := 5) rfl))) (by decide) (backOf (W := 0) (rm1_0 l Z a0 hw [] aa kk_aa  h101 n0 Z101 V_aa_101) hZ (hw _ (List.mem_of_getElem? (i := 5) rfl)) (hw _ (List.mem_of_getElem? (i := 4) rfl)) (by decide) (by decide)) (g := (mkF m 117 #[.val (.int p1), .val (.int p2), .val (.int p3), .val (.int p4), .val (.int p5), .val (.int (0 : Int32)), .val (.ref aa), .val (.long (1 : Int64)), .second] [(.ref aa)])) rfl (by rw [hml]; rfl) (argsL := [(.ref aa)]) (rest := []) (lenOf own_pd0 rfl) rfl (by show 2 * 0 + _ ≤ _; exact Nat.le_of_eq rfl) (hb hby at_117) (fun _ _ => ⟨rfl, e101, (by decide : 1 + 0 ≤ _), (by decide : 0 + 0 ≤ _)⟩)
    dsimp only [Pt.U, Pt.locs, Pt.cells, Pt.slots] at X102 l102 y102 z102 st102 hQ102
    subst l102 y102 z102
    obtain ⟨rfl, Nc, ec⟩ := hQ102
    refine Rch.go st102 ?_
    show Rch p e below _ T102 (mkF m 120 #[.val (.int p1), .val (.int p2), .val (.int p3), .val (.int p4), .val (.int p5), .val (.int (0 : Int32)), .val (.ref aa), .val (.long (1 : Int64)), .second] [(.long (1 : Int64))])
    have N102 := Fr.app N0 Nc
    have e102 := ec
    refine Rch.go (fun _ q => XS.lload X102.here hx rfl (hb hby at_120) rfl  q) ?_
    show Rch p e below _ T102 (mkF m 122 #[.val (.int p1), .val (.int p2), .val (.int p3), .val (.int p4), .val (.int p5), .val (.int (0 : Int32)), .val (.ref aa), .val (.long (1 : Int64)), .second] [(.long (1 : Int64)), (.long (1 : Int64))])
    refine Rch.go (fun _ q => XS.lcmp X102.here hx rfl (hb hby at_122) rfl q) ?_
    show Rch p e below _ T102 (mkF m 123 #[.val (.int p1), .val (.int p2), .val (.int p3), .val (.int p4), .val (.int p5), .val (.int (0 : Int32)), .val (.ref aa), .val (.long (1 : Int64)), .second] [(.int (lcmpW (1 : Int64) (1 : Int64)))])
    have hq : (1 : Int64) = (1 : Int64) := by ac_rfl
    refine Rch.go (fun _ q => XS.ifNo X102.here hx rfl (hb hby at_123) rfl ((if0 _ _).trans (teq ((lw_eq _ _).mpr hq)).2) q) ?_
    show Rch p e below _ T102 (mkF m 126 #[.val (.int p1), .val (.int p2), .val (.int p3), .val (.int p4), .val (.int p5), .val (.int (0 : Int32)), .val (.ref aa), .val (.long (1 : Int64)), .second] [])
    refine Rch.go (fun _ q => XS.iconst X102.here hx rfl (hb hby at_126) q) ?_
    show Rch p e below _ T102 (mkF m 127 #[.val (.int p1), .val (.int p2), .val (.int p3), .val (.int p4), .val (.int p5), .val (.int (0 : Int32)), .val (.ref aa), .val (.long (1 : Int64)), .second] [(.int (1 : Int32))])
    refine Rch.go (fun _ q => XS.goto X102.here hx rfl (pc0 := 127) (pc' := 131) rfl (hb hby at_127) (by decide) (by decide) q) ?_
    show Rch p e below _ T102 (mkF m 131 #[.val (.int p1), .val (.int p2), .val (.int p3), .val (.int p4), .val (.int p5), .val (.int (0 : Int32)), .val (.ref aa), .val (.long (1 : Int64)), .second] [(.int (1 : Int32))])
    refine Rch.retZ X102 hx hlk Bd.returns (hb hby at_131) (by decide) (by decide) ?_
    unfold Qrm0
    exact ⟨rfl, N102⟩
  · rw [hr]
    show Rch p e below _ s₁ (mkF m 8 #[.val (.int p1), .val (.int p2), .val (.int p3), .val (.int p4), .val (.int p5), .val (.int (1 : Int32)), .unset, .unset, .unset] [])
    refine Rch.go (fun _ q => XS.iload X0.here hx rfl (hb hby at_8) rfl  q) ?_
    show Rch p e below _ s₁ (mkF m 10 #[.val (.int p1), .val (.int p2), .val (.int p3), .val (.int p4), .val (.int p5), .val (.int (1 : Int32)), .unset, .unset, .unset] [(.int (1 : Int32))])
    obtain ⟨T103, h103, kk_aa, X103, e103, E103, V103, st103⟩ := naw X0 hx hZ (hw _ (List.mem_of_getElem? (i := 1) rfl)) e0 (g := (mkF m 10 #[.val (.int p1), .val (.int p2), .val (.int p3), .val (.int p4), .val (.int p5), .val (.int (1 : Int32)), .unset, .unset, .unset] [(.int (1 : Int32))])) rfl (hb hby at_10) rfl (by decide) 1 (cap := 1) (by decide) (by decide) (by decide) (by decide)
    obtain ⟨aa, g103⟩ : ∃ q, q = Array.size h0 := ⟨_, rfl⟩
    rw [← g103] at V103 st103
    have V_aa_103 : Arv Z h103 aa kk_aa .int (1 : Int32) [(.int 0)] (.int 0) := V103
    have le_aa : n0 ≤ aa := by rw [g103]; exact Z0
    have Z103 : n0 ≤ h103.size := Nat.le_trans Z0 E103.1
    refine Rch.go st103 ?_
    show Rch p e below _ T103 (mkF m 12 #[.val (.int p1), .val (.int p2), .val (.int p3), .val (.int p4), .val (.int p5), .val (.int (1 : Int32)), .unset, .unset, .unset] [(.ref aa)])
    refine Rch.go (fun _ q => XS.astore X103.here hx rfl (hb hby at_12) rfl rfl (l' := #[.val (.int p1), .val (.int p2), .val (.int p3), .val (.int p4), .val (.int p5), .val (.int (1 : Int32)), .val (.ref aa), .unset, .unset]) rfl q) ?_
    show Rch p e below _ T103 (mkF m 14 #[.val (.int p1), .val (.int p2), .val (.int p3), .val (.int p4), .val (.int p5), .val (.int (1 : Int32)), .val (.ref aa), .unset, .unset] [])
    refine Rch.go (fun _ q => XS.iload X103.here hx rfl (hb hby at_14) rfl  q) ?_
    show Rch p e below _ T103 (mkF m 16 #[.val (.int p1), .val (.int p2), .val (.int p3), .val (.int p4), .val (.int p5), .val (.int (1 : Int32)), .val (.ref aa), .unset, .unset] [(.int (1 : Int32))])
    refine Rch.go (fun _ q => XS.iconst X103.here hx rfl (hb hby at_16) q) ?_
    show Rch p e below _ T103 (mkF m 17 #[.val (.int p1), .val (.int p2), .val (.int p3), .val (.int p4), .val (.int p5), .val (.int (1 : Int32)), .val (.ref aa), .unset, .unset] [(.int (1 : Int32)), (.int (1 : Int32))])
    refine Rch.go (fun _ q => XS.icmpNo X103.here hx rfl (hb hby at_17) rfl (flt (by decide)).1 q) ?_
    show Rch p e below _ T103 (mkF m 20 #[.val (.int p1), .val (.int p2), .val (.int p3), .val (.int p4), .val (.int p5), .val (.int (1 : Int32)), .val (.ref aa), .unset, .unset] [])
    refine Rch.go (fun _ q => XS.aload X103.here hx rfl (hb hby at_20) rfl rfl q) ?_
    show Rch p e below _ T103 (mkF m 22 #[.val (.int p1), .val (.int p2), .val (.int p3), .val (.int p4), .val (.int p5), .val (.int (1 : Int32)), .val (.ref aa), .unset, .unset] [(.ref aa)])
    refine Rch.go (fun _ q => XS.iconst X103.here hx rfl (hb hby at_22) q) ?_
    show Rch p e below _ T103 (mkF m 23 #[.val (.int p1), .val (.int p2), .val (.int p3), .val (.int p4), .val (.int p5), .val (.int (1 : Int32)), .val (.ref aa), .unset, .unset] [(.int (0 : Int32)), (.ref aa)])
    refine Rch.go (fun _ q => XS.iloadN X103.here hx rfl (hb hby at_23) rfl  q) ?_
    show Rch p e below _ T103 (mkF m 24 #[.val (.int p1), .val (.int p2), .val (.int p3), .val (.int p4), .val (.int p5), .val (.int (1 : Int32)), .val (.ref aa), .unset, .unset] [(.int p2), (.int (0 : Int32)), (.ref aa)])
    obtain ⟨T104, h104, X104, e104, W104, V104, st104⟩ := sdI X103 hx hZ e103 V_aa_103 (j := (0 : Int32)) (by decide) 0 (by decide) (Nat.le_of_ble_eq_true rfl) (g := (mkF m 24 #[.val (.int p1), .val (.int p2), .val (.int p3), .val (.int p4), .val (.int p5), .val (.int (1 : Int32)), .val (.ref aa), .unset, .unset] [(.int p2), (.int (0 : Int32)), (.ref aa)])) rfl rfl (hb hby at_24)
    have V_aa_104 : Arv Z h104 aa kk_aa .int (1 : Int32) [(.int p2)] (.int 0) := V104
    have N104 := Fr.snoc X104 N0 le_aa
    have Z104 : n0 ≤ h104.size := by rw [W104.size]; exact Z103
    refine Rch.go st104 ?_
    show Rch p e below _ T104 (mkF m 25 #[.val (.int p1), .val (.int p2), .val (.int p3), .val (.int p4), .val (.int p5), .val (.int (1 : Int32)), .val (.ref aa), .unset, .unset] [])
    refine Rch.go (fun _ q => XS.iload X104.here hx rfl (hb hby at_25) rfl  q) ?_
    show Rch p e below _ T104 (mkF m 27 #[.val (.int p1), .val (.int p2), .val (.int p3), .val (.int p4), .val (.int p5), .val (.int (1 : Int32)), .val (.ref aa), .unset, .unset] [(.int (1 : Int32))])
    refine Rch.go (fun _ q => XS.iconst X104.here hx rfl (hb hby at_27) q) ?_
    show Rch p e below _ T104 (mkF m 28 #[.val (.int p1), .val (.int p2), .val (.int p3), .val (.int p4), .val (.int p5), .val (.int (1 : Int32)), .val (.ref aa), .unset, .unset] [(.int (2 : Int32)), (.int (1 : Int32))])
    refine Rch.go (fun _ q => XS.icmpYes X104.here hx rfl (pc0 := 28) (pc' := 36) rfl (hb hby at_28) rfl (tlt (by decide)).1 (by decide) (by decide) q) ?_
    show Rch p e below _ T104 (mkF m 36 #[.val (.int p1), .val (.int p2), .val (.int p3), .val (.int p4), .val (.int p5), .val (.int (1 : Int32)), .val (.ref aa), .unset, .unset] [])
    refine Rch.go (fun _ q => XS.iload X104.here hx rfl (hb hby at_36) rfl  q) ?_
    show Rch p e below _ T104 (mkF m 38 #[.val (.int p1), .val (.int p2), .val (.int p3), .val (.int p4), .val (.int p5), .val (.int (1 : Int32)), .val (.ref aa), .unset, .unset] [(.int (1 : Int32))])
    refine Rch.go (fun _ q => XS.iconst X104.here hx rfl (hb hby at_38) q) ?_
    show Rch p e below _ T104 (mkF m 39 #[.val (.int p1), .val (.int p2), .val (.int p3), .val (.int p4), .val (.int p5), .val (.int (1 : Int32)), .val (.ref aa), .unset, .unset] [(.int (3 : Int32)), (.int (1 : Int32))])
    refine Rch.go (fun _ q => XS.icmpYes X104.here hx rfl (pc0 := 39) (pc' := 47) rfl (hb hby at_39) rfl (tlt (by decide)).1 (by decide) (by decide) q) ?_
    show Rch p e below _ T104 (mkF m 47 #[.val (.int p1), .val (.int p2), .val (.int p3), .val (.int p4), .val (.int p5), .val (.int (1 : Int32)), .val (.ref aa), .unset, .unset] [])
    refine Rch.go (fun _ q => XS.iload X104.here hx rfl (hb hby at_47) rfl  q) ?_
    show Rch p e below _ T104 (mkF m 49 #[.val (.int p1), .val (.int p2), .val (.int p3), .val (.int p4), .val (.int p5), .val (.int (1 : Int32)), .val (.ref aa), .unset, .unset] [(.int (1 : Int32))])
    refine Rch.go (fun _ q => XS.iconst X104.here hx rfl (hb hby at_49) q) ?_
    show Rch p e below _ T104 (mkF m 50 #[.val (.int p1), .val (.int p2), .val (.int p3), .val (.int p4), .val (.int p5), .val (.int (1 : Int32)), .val (.ref aa), .unset, .unset] [(.int (4 : Int32)), (.int (1 : Int32))])
    refine Rch.go (fun _ q => XS.icmpYes X104.here hx rfl (pc0 := 50) (pc' := 59) rfl (hb hby at_50) rfl (tlt (by decide)).1 (by decide) (by decide) q) ?_
    show Rch p e below _ T104 (mkF m 59 #[.val (.int p1), .val (.int p2), .val (.int p3), .val (.int p4), .val (.int p5), .val (.int (1 : Int32)), .val (.ref aa), .unset, .unset] [])
    refine Rch.go (fun _ q => XS.lconst X104.here hx rfl (hb hby at_59) q) ?_
    show Rch p e below _ T104 (mkF m 60 #[.val (.int p1), .val (.int p2), .val (.int p3), .val (.int p4), .val (.int p5), .val (.int (1 : Int32)), .val (.ref aa), .unset, .unset] [(.long (1 : Int64))])
    refine Rch.go (fun _ q => XS.lstore X104.here hx rfl (hb hby at_60) rfl (l' := #[.val (.int p1), .val (.int p2), .val (.int p3), .val (.int p4), .val (.int p5), .val (.int (1 : Int32)), .val (.ref aa), .val (.long (1 : Int64)), .second]) rfl q) ?_
    show Rch p e below _ T104 (mkF m 62 #[.val (.int p1), .val (.int p2), .val (.int p3), .val (.int p4), .val (.int p5), .val (.int (1 : Int32)), .val (.ref aa), .val (.long (1 : Int64)), .second] [])
    refine Rch.go (fun _ q => XS.iload X104.here hx rfl (hb hby at_62) rfl  q) ?_
    show Rch p e below _ T104 (mkF m 64 #[.val (.int p1), .val (.int p2), .val (.int p3), .val (.int p4), .val (.int p5), .val (.int (1 : Int32)), .val (.ref aa), .val (.long (1 : Int64)), .second] [(.int (1 : Int32))])
    refine Rch.go (fun _ q => XS.iconst X104.here hx rfl (hb hby at_64) q) ?_
    show Rch p e below _ T104 (mkF m 65 #[.val (.int p1), .val (.int p2), .val (.int p3), .val (.int p4), .val (.int p5), .val (.int (1 : Int32)), .val (.ref aa), .val (.long (1 : Int64)), .second] [(.int (4 : Int32)), (.int (1 : Int32))])
    refine Rch.go (fun _ q => XS.icmpYes X104.here hx rfl (pc0 := 65) (pc' := 76) rfl (hb hby at_65) rfl (tlt (by decide)).1 (by decide) (by decide) q) ?_
    show Rch p e below _ T104 (mkF m 76 #[.val (.int p1), .val (.int p2), .val (.int p3), .val (.int p4), .val (.int p5), .val (.int (1 : Int32)), .val (.ref aa), .val (.long (1 : Int64)), .second] [])
    refine Rch.go (fun _ q => XS.iload X104.here hx rfl (hb hby at_76) rfl  q) ?_
    show Rch p e below _ T104 (mkF m 78 #[.val (.int p1), .val (.int p2), .val (.int p3), .val (.int p4), .val (.int p5), .val (.int (1 : Int32)), .val (.ref aa), .val (.long (1 : Int64)), .second] [(.int (1 : Int32))])
    refine Rch.go (fun _ q => XS.iconst X104.here hx rfl (hb hby at_78) q) ?_
    show Rch p e below _ T104 (mkF m 79 #[.val (.int p1), .val (.int p2), .val (.int p3), .val (.int p4), .val (.int p5), .val (.int (1 : Int32)), .val (.ref aa), .val (.long (1 : Int64)), .second] [(.int (3 : Int32)), (.int (1 : Int32))])
    refine Rch.go (fun _ q => XS.icmpYes X104.here hx rfl (pc0 := 79) (pc' := 89) rfl (hb hby at_79) rfl (tlt (by decide)).1 (by decide) (by decide) q) ?_
    show Rch p e below _ T104 (mkF m 89 #[.val (.int p1), .val (.int p2), .val (.int p3), .val (.int p4), .val (.int p5), .val (.int (1 : Int32)), .val (.ref aa), .val (.long (1 : Int64)), .second] [])
    refine Rch.go (fun _ q => XS.iload X104.here hx rfl (hb hby at_89) rfl  q) ?_
    show Rch p e below _ T104 (mkF m 91 #[.val (.int p1), .val (.int p2), .val (.int p3), .val (.int p4), .val (.int p5), .val (.int (1 : Int32)), .val (.ref aa), .val (.long (1 : Int64)), .second] [(.int (1 : Int32))])
    refine Rch.go (fun _ q => XS.iconst X104.here hx rfl (hb hby at_91) q) ?_
    show Rch p e below _ T104 (mkF m 92 #[.val (.int p1), .val (.int p2), .val (.int p3), .val (.int p4), .val (.int p5), .val (.int (1 : Int32)), .val (.ref aa), .val (.long (1 : Int64)), .second] [(.int (2 : Int32)), (.int (1 : Int32))])
    refine Rch.go (fun _ q => XS.icmpYes X104.here hx rfl (pc0 := 92) (pc' := 102) rfl (hb hby at_92) rfl (tlt (by decide)).1 (by decide) (by decide) q) ?_
    show Rch p e below _ T104 (mkF m 102 #[.val (.int p1), .val (.int p2), .val (.int p3), .val (.int p4), .val (.int p5), .val (.int (1 : Int32)), .val (.ref aa), .val (.long (1 : Int64)), .second] [])
    refine Rch.go (fun _ q => XS.iload X104.here hx rfl (hb hby at_102) rfl  q) ?_
    show Rch p e below _ T104 (mkF m 104 #[.val (.int p1), .val (.int p2), .val (.int p3), .val (.int p4), .val (.int p5), .val (.int (1 : Int32)), .val (.ref aa), .val (.long (1 : Int64)), .second] [(.int (1 : Int32))])
    refine Rch.go (fun _ q => XS.iconst X104.here hx rfl (hb hby at_104) q) ?_
    show Rch p e below _ T104 (mkF m 105 #[.val (.int p1), .val (.int p2), .val (.int p3), .val (.int p4), .val (.int p5), .val (.int (1 : Int32)), .val (.ref aa), .val (.long (1 : Int64)), .second] [(.int (1 : Int32)), (.int (1 : Int32))])
    refine Rch.go (fun _ q => XS.icmpNo X104.here hx rfl (hb hby at_105) rfl (flt (by decide)).1 q) ?_
    show Rch p e below _ T104 (mkF m 108 #[.val (.int p1), .val (.int p2), .val (.int p3), .val (.int p4), .val (.int p5), .val (.int (1 : Int32)), .val (.ref aa), .val (.long (1 : Int64)), .second] [])
    refine Rch.go (fun _ q => XS.lload X104.here hx rfl (hb hby at_108) rfl  q) ?_
    show Rch p e below _ T104 (mkF m 110 #[.val (.int p1), .val (.int p2), .val (.int p3), .val (.int p4), .val (.int p5), .val (.int (1 : Int32)), .val (.ref aa), .val (.long (1 : Int64)), .second] [(.long (1 : Int64))])
    refine Rch.go (fun _ q => XS.iloadN X104.here hx rfl (hb hby at_110) rfl  q) ?_
    show Rch p e below _ T104 (mkF m 111 #[.val (.int p1), .val (.int p2), .val (.int p3), .val (.int p4), .val (.int p5), .val (.int (1 : Int32)), .val (.ref aa), .val (.long (1 : Int64)), .second] [(.int p2), (.long (1 : Int64))])
    refine Rch.go (fun _ q => XS.i2l X104.here hx rfl (hb hby at_111) rfl q) ?_
    show Rch p e below _ T104 (mkF m 112 #[.val (.int p1), .val (.int p2), .val (.int p3), .val (.int p4), .val (.int p5), .val (.int (1 : Int32)), .val (.ref aa), .val (.long (1 : Int64)), .second] [(.long (p2.toInt64)), (.long (1 : Int64))])
    refine Rch.go (fun _ q => XS.lmul X104.here hx rfl (hb hby at_112) rfl q) ?_
    show Rch p e below _ T104 (mkF m 113 #[.val (.int p1), .val (.int p2), .val (.int p3), .val (.int p4), .val (.int p5), .val (.int (1 : Int32)), .val (.ref aa), .val (.long (1 : Int64)), .second] [(.long ((1 : Int64) * (p2.toInt64)))])
    refine Rch.go (fun _ q => XS.lstore X104.here hx rfl (hb hby at_113) rfl (l' := #[.val (.int p1), .val (.int p2), .val (.int p3), .val (.int p4), .val (.int p5), .val (.int (1 : Int32)), .val (.ref aa), .val (.long ((1 : Int64) * (p2.toInt64))), .second]) rfl q) ?_
    show Rch p e below _ T104 (mkF m 115 #[.val (.int p1), .val (.int p2), .val (.int p3), .val (.int p4), .val (.int p5), .val (.int (1 : Int32)), .val (.ref aa), .val (.long ((1 : Int64) * (p2.toInt64))), .second] [])
    refine Rch.go (fun _ q => XS.aload X104.here hx rfl (hb hby at_115) rfl rfl q) ?_
    show Rch p e below _ T104 (mkF m 117 #[.val (.int p1), .val (.int p2), .val (.int p3), .val (.int p4), .val (.int p5), .val (.int (1 : Int32)), .val (.ref aa), .val (.long ((1 : Int64) * (p2.toInt64))), .second] [(.ref aa)])
    obtain ⟨_, _, ⟨T105, L105, k105, n105⟩, -, X105, ⟨Lc105, hQ105, l105, y105, z105⟩, st105⟩ := Jvm.LawKit.callS X104 hx (y := (⟨"com/example/heverlee/heverlee/engine/Factor", "entries", "([I)J"⟩ : MethodName)) hown (mvT hZ (hw _ (List.mem_of_getElem? (i := 2) rfl))) (mvT hZ (hw _ (List.mem_of_getElem? (i := 3) rfl))) (mvT hZ (hw _ (List.mem_of_getElem? (i := 4) rfl))) (mvT hZ (hw _ (List.mem_of_getElem? (i := 5) rfl))) (by decide) (backOf (W := 0) (rm1_1 l Z a0 hw [] aa kk_aa p2 h104 n0 Z104 V_aa_104) hZ (hw _ (List.mem_of_getElem? (i := 5) rfl)) (hw _ (List.mem_of_getElem? (i := 4) rfl)) (by decide) (by decide)) (g := (mkF m 117 #[.val (.int p1), .val (.int p2), .val (.int p3), .val (.int p4), .val (.int p5), .val (.int (1 : Int32)), .val (.ref aa), .val (.long ((1 : Int64) * (p2.toInt64))), .second] [(.ref aa)])) rfl (by rw [hml]; rfl) (argsL := [(.ref aa)]) (rest := []) (lenOf own_pd0 rfl) rfl (by show 2 * 0 + _ ≤ _; exact Nat.le_of_eq rfl) (hb hby at_117) (fun _ _ => ⟨rfl, e104, (by decide : 1 + 0 ≤ _), (by decide : 1 + 0 ≤ _)⟩)
    dsimp only [Pt.U, Pt.locs, Pt.cells, Pt.slots] at X105 l105 y105 z105 st105 hQ105
    subst l105 y105 z105
    obtain ⟨rfl, Nc, ec⟩ := hQ105
    refine Rch.go st105 ?_
    show Rch p e below _ T105 (mkF m 120 #[.val (.int p1), .val (.int p2), .val (.int p3), .val (.int p4), .val (.int p5), .val (.int (1 : Int32)), .val (.ref aa), .val (.long ((1 : Int64) * (p2.toInt64))), .second] [(.long ((1 : Int64) * (p2.toInt64)))])
    have N105 := Fr.app N104 Nc
    have e105 := ec
    refine Rch.go (fun _ q => XS.lload X105.here hx rfl (hb hby at_120) rfl  q) ?_
    show Rch p e below _ T105 (mkF m 122 #[.val (.int p1), .val (.int p2), .val (.int p3), .val (.int p4), .val (.int p5), .val (.int (1 : Int32)), .val (.ref aa), .val (.long ((1 : Int64) * (p2.toInt64))), .second] [(.long ((1 : Int64) * (p2.toInt64))), (.long ((1 : Int64) * (p2.toInt64)))])
    refine Rch.go (fun _ q => XS.lcmp X105.here hx rfl (hb hby at_122) rfl q) ?_
    show Rch p e below _ T105 (mkF m 123 #[.val (.int p1), .val (.int p2), .val (.int p3), .val (.int p4), .val (.int p5), .val (.int (1 : Int32)), .val (.ref aa), .val (.long ((1 : Int64) * (p2.toInt64))), .second] [(.int (lcmpW ((1 : Int64) * (p2.toInt64)) ((1 : Int64) * (p2.toInt64))))])
    have hq : ((1 : Int64) * (p2.toInt64)) = ((1 : Int64) * (p2.toInt64)) := by ac_rfl
    refine Rch.go (fun _ q => XS.ifNo X105.here hx rfl (hb hby at_123) rfl ((if0 _ _).trans (teq ((lw_eq _ _).mpr hq)).2) q) ?_
    show Rch p e below _ T105 (mkF m 126 #[.val (.int p1), .val (.int p2), .val (.int p3), .val (.int p4), .val (.int p5), .val (.int (1 : Int32)), .val (.ref aa), .val (.long ((1 : Int64) * (p2.toInt64))), .second] [])
    refine Rch.go (fun _ q => XS.iconst X105.here hx rfl (hb hby at_126) q) ?_
    show Rch p e below _ T105 (mkF m 127 #[.val (.int p1), .val (.int p2), .val (.int p3), .val (.int p4), .val (.int p5), .val (.int (1 : Int32)), .val (.ref aa), .val (.long ((1 : Int64) * (p2.toInt64))), .second] [(.int (1 : Int32))])
    refine Rch.go (fun _ q => XS.goto X105.here hx rfl (pc0 := 127) (pc' := 131) rfl (hb hby at_127) (by decide) (by decide) q) ?_
    show Rch p e below _ T105 (mkF m 131 #[.val (.int p1), .val (.int p2), .val (.int p3), .val (.int p4), .val (.int p5), .val (.int (1 : Int32)), .val (.ref aa), .val (.long ((1 : Int64) * (p2.toInt64))), .second] [(.int (1 : Int32))])
    refine Rch.retZ X105 hx hlk Bd.returns (hb hby at_131) (by decide) (by decide) ?_
    unfold Qrm0
    exact ⟨rfl, N105⟩
  · rw [hr]
    show Rch p e below _ s₁ (mkF m 8 #[.val (.int p1), .val (.int p2), .val (.int p3), .val (.int p4), .val (.int p5), .val (.int (2 : Int32)), .unset, .unset, .unset] [])
    refine Rch.go (fun _ q => XS.iload X0.here hx rfl (hb hby at_8) rfl  q) ?_
    show Rch p e below _ s₁ (mkF m 10 #[.val (.int p1), .val (.int p2), .val (.int p3), .val (.int p4), .val (.int p5), .val (.int (2 : Int32)), .unset, .unset, .unset] [(.int (2 : Int32))])
    obtain ⟨T106, h106, kk_aa, X106, e106, E106, V106, st106⟩ := naw X0 hx hZ (hw _ (List.mem_of_getElem? (i := 1) rfl)) e0 (g := (mkF m 10 #[.val (.int p1), .val (.int p2), .val (.int p3), .val (.int p4), .val (.int p5), .val (.int (2 : Int32)), .unset, .unset, .unset] [(.int (2 : Int32))])) rfl (hb hby at_10) rfl (by decide) 2 (cap := 2) (by decide) (by decide) (by decide) (by decide)
    obtain ⟨aa, g106⟩ : ∃ q, q = Array.size h0 := ⟨_, rfl⟩
    rw [← g106] at V106 st106
    have V_aa_106 : Arv Z h106 aa kk_aa .int (2 : Int32) [(.int 0), (.int 0)] (.int 0) := V106
    have le_aa : n0 ≤ aa := by rw [g106]; exact Z0
    have Z106 : n0 ≤ h106.size := Nat.le_trans Z0 E106.1
    refine Rch.go st106 ?_
    show Rch p e below _ T106 (mkF m 12 #[.val (.int p1), .val (.int p2), .val (.int p3), .val (.int p4), .val (.int p5), .val (.int (2 : Int32)), .unset, .unset, .unset] [(.ref aa)])
    refine Rch.go (fun _ q => XS.astore X106.here hx rfl (hb hby at_12) rfl rfl (l' := #[.val (.int p1), .val (.int p2), .val (.int p3), .val (.int p4), .val (.int p5), .val (.int (2 : Int32)), .val (.ref aa), .unset, .unset]) rfl q) ?_
    show Rch p e below _ T106 (mkF m 14 #[.val (.int p1), .val (.int p2), .val (.int p3), .val (.int p4), .val (.int p5), .val (.int (2 : Int32)), .val (.ref aa), .unset, .unset] [])
    refine Rch.go (fun _ q => XS.iload X106.here hx rfl (hb hby at_14) rfl  q) ?_
    show Rch p e below _ T106 (mkF m 16 #[.val (.int p1), .val (.int p2), .val (.int p3), .val (.int p4), .val (.int p5), .val (.int (2 : Int32)), .val (.ref aa), .unset, .unset] [(.int (2 : Int32))])
    refine Rch.go (fun _ q => XS.iconst X106.here hx rfl (hb hby at_16) q) ?_
    show Rch p e below _ T106 (mkF m 17 #[.val (.int p1), .val (.int p2), .val (.int p3), .val (.int p4), .val (.int p5), .val (.int (2 : Int32)), .val (.ref aa), .unset, .unset] [(.int (1 : Int32)), (.int (2 : Int32))])
    refine Rch.go (fun _ q => XS.icmpNo X106.here hx rfl (hb hby at_17) rfl (flt (by decide)).1 q) ?_
    show Rch p e below _ T106 (mkF m 20 #[.val (.int p1), .val (.int p2), .val (.int p3), .val (.int p4), .val (.int p5), .val (.int (2 : Int32)), .val (.ref aa), .unset, .unset] [])
    refine Rch.go (fun _ q => XS.aload X106.here hx rfl (hb hby at_20) rfl rfl q) ?_
    show Rch p e below _ T106 (mkF m 22 #[.val (.int p1), .val (.int p2), .val (.int p3), .val (.int p4), .val (.int p5), .val (.int (2 : Int32)), .val (.ref aa), .unset, .unset] [(.ref aa)])
    refine Rch.go (fun _ q => XS.iconst X106.here hx rfl (hb hby at_22) q) ?_
    show Rch p e below _ T106 (mkF m 23 #[.val (.int p1), .val (.int p2), .val (.int p3), .val (.int p4), .val (.int p5), .val (.int (2 : Int32)), .val (.ref aa), .unset, .unset] [(.int (0 : Int32)), (.ref aa)])
    refine Rch.go (fun _ q => XS.iloadN X106.here hx rfl (hb hby at_23) rfl  q) ?_
    show Rch p e below _ T106 (mkF m 24 #[.val (.int p1), .val (.int p2), .val (.int p3), .val (.int p4), .val (.int p5), .val (.int (2 : Int32)), .val (.ref aa), .unset, .unset] [(.int p2), (.int (0 : Int32)), (.ref aa)])
    obtain ⟨T107, h107, X107, e107, W107, V107, st107⟩ := sdI X106 hx hZ e106 V_aa_106 (j := (0 : Int32)) (by decide) 0 (by decide) (Nat.le_of_ble_eq_true rfl) (g := (mkF m 24 #[.val (.int p1), .val (.int p2), .val (.int p3), .val (.int p4), .val (.int p5), .val (.int (2 : Int32)), .val (.ref aa), .unset, .unset] [(.int p2), (.int (0 : Int32)), (.ref aa)])) rfl rfl (hb hby at_24)
    have V_aa_107 : Arv Z h107 aa kk_aa .int (2 : Int32) [(.int p2), (.int 0)] (.int 0) := V107
    have N107 := Fr.snoc X107 N0 le_aa
    have Z107 : n0 ≤ h107.size := by rw [W107.size]; exact Z106
    refine Rch.go st107 ?_
    show Rch p e below _ T107 (mkF m 25 #[.val (.int p1), .val (.int p2), .val (.int p3), .val (.int p4), .val (.int p5), .val (.int (2 : Int32)), .val (.ref aa), .unset, .unset] [])
    refine Rch.go (fun _ q => XS.iload X107.here hx rfl (hb hby at_25) rfl  q) ?_
    show Rch p e below _ T107 (mkF m 27 #[.val (.int p1), .val (.int p2), .val (.int p3), .val (.int p4), .val (.int p5), .val (.int (2 : Int32)), .val (.ref aa), .unset, .unset] [(.int (2 : Int32))])
    refine Rch.go (fun _ q => XS.iconst X107.here hx rfl (hb hby at_27) q) ?_
    show Rch p e below _ T107 (mkF m 28 #[.val (.int p1), .val (.int p2), .val (.int p3), .val (.int p4), .val (.int p5), .val (.int (2 : Int32)), .val (.ref aa), .unset, .unset] [(.int (2 : Int32)), (.int (2 : Int32))])
    refine Rch.go (fun _ q => XS.icmpNo X107.here hx rfl (hb hby at_28) rfl (flt (by decide)).1 q) ?_
    show Rch p e below _ T107 (mkF m 31 #[.val (.int p1), .val (.int p2), .val (.int p3), .val (.int p4), .val (.int p5), .val (.int (2 : Int32)), .val (.ref aa), .unset, .unset] [])
    refine Rch.go (fun _ q => XS.aload X107.here hx rfl (hb hby at_31) rfl rfl q) ?_
    show Rch p e below _ T107 (mkF m 33 #[.val (.int p1), .val (.int p2), .val (.int p3), .val (.int p4), .val (.int p5), .val (.int (2 : Int32)), .val (.ref aa), .unset, .unset] [(.ref aa)])
    refine Rch.go (fun _ q => XS.iconst X107.here hx rfl (hb hby at_33) q) ?_
    show Rch p e below _ T107 (mkF m 34 #[.val (.int p1), .val (.int p2), .val (.int p3), .val (.int p4), .val (.int p5), .val (.int (2 : Int32)), .val (.ref aa), .unset, .unset] [(.int (1 : Int32)), (.ref aa)])
    refine Rch.go (fun _ q => XS.iloadN X107.here hx rfl (hb hby at_34) rfl  q) ?_
    show Rch p e below _ T107 (mkF m 35 #[.val (.int p1), .val (.int p2), .val (.int p3), .val (.int p4), .val (.int p5), .val (.int (2 : Int32)), .val (.ref aa), .unset, .unset] [(.int p3), (.int (1 : Int32)), (.ref aa)])
    obtain ⟨T108, h108, X108, e108, W108, V108, st108⟩ := sdI X107 hx hZ e107 V_aa_107 (j := (1 : Int32)) (by decide) 1 (by decide) (Nat.le_of_ble_eq_true rfl) (g := (mkF m 35 #[.val (.int p1), .val (.int p2), .val (.int p3), .val (.int p4), .val (.int p5), .val (.int (2 : Int32)), .val (.ref aa), .unset, .unset] [(.int p3), (.int (1 : Int32)), (.ref aa)])) rfl rfl (hb hby at_35)
    have V_aa_108 : Arv Z h108 aa kk_aa .int (2 : Int32) [(.int p2), (.int p3)] (.int 0) := V108
    have N108 := Fr.snoc X108 N107 le_aa
    have Z108 : n0 ≤ h108.size := by rw [W108.size]; exact Z107
    refine Rch.go st108 ?_
    show Rch p e below _ T108 (mkF m 36 #[.val (.int p1), .val (.int p2), .val (.int p3), .val (.int p4), .val (.int p5), .val (.int (2 : Int32)), .val (.ref aa), .unset, .unset] [])
    refine Rch.go (fun _ q => XS.iload X108.here hx rfl (hb hby at_36) rfl  q) ?_
    show Rch p e below _ T108 (mkF m 38 #[.val (.int p1), .val (.int p2), .val (.int p3), .val (.int p4), .val (.int p5), .val (.int (2 : Int32)), .val (.ref aa), .unset, .unset] [(.int (2 : Int32))])
    refine Rch.go (fun _ q => XS.iconst X108.here hx rfl (hb hby at_38) q) ?_
    show Rch p e below _ T108 (mkF m 39 #[.val (.int p1), .val (.int p2), .val (.int p3), .val (.int p4), .val (.int p5), .val (.int (2 : Int32)), .val (.ref aa), .unset, .unset] [(.int (3 : Int32)), (.int (2 : Int32))])
    refine Rch.go (fun _ q => XS.icmpYes X108.here hx rfl (pc0 := 39) (pc' := 47) rfl (hb hby at_39) rfl (tlt (by decide)).1 (by decide) (by decide) q) ?_
    show Rch p e below _ T108 (mkF m 47 #[.val (.int p1), .val (.int p2), .val (.int p3), .val (.int p4), .val (.int p5), .val (.int (2 : Int32)), .val (.ref aa), .unset, .unset] [])
    refine Rch.go (fun _ q => XS.iload X108.here hx rfl (hb hby at_47) rfl  q) ?_
    show Rch p e below _ T108 (mkF m 49 #[.val (.int p1), .val (.int p2), .val (.int p3), .val (.int p4), .val (.int p5), .val (.int (2 : Int32)), .val (.ref aa), .unset, .unset] [(.int (2 : Int32))])
    refine Rch.go (fun _ q => XS.iconst X108.here hx rfl (hb hby at_49) q) ?_
    show Rch p e below _ T108 (mkF m 50 #[.val (.int p1), .val (.int p2), .val (.int p3), .val (.int p4), .val (.int p5), .val (.int (2 : Int32)), .val (.ref aa), .unset, .unset] [(.int (4 : Int32)), (.int (2 : Int32))])
    refine Rch.go (fun _ q => XS.icmpYes X108.here hx rfl (pc0 := 50) (pc' := 59) rfl (hb hby at_50) rfl (tlt (by decide)).1 (by decide) (by decide) q) ?_
    show Rch p e below _ T108 (mkF m 59 #[.val (.int p1), .val (.int p2), .val (.int p3), .val (.int p4), .val (.int p5), .val (.int (2 : Int32)), .val (.ref aa), .unset, .unset] [])
    refine Rch.go (fun _ q => XS.lconst X108.here hx rfl (hb hby at_59) q) ?_
    show Rch p e below _ T108 (mkF m 60 #[.val (.int p1), .val (.int p2), .val (.int p3), .val (.int p4), .val (.int p5), .val (.int (2 : Int32)), .val (.ref aa), .unset, .unset] [(.long (1 : Int64))])
    refine Rch.go (fun _ q => XS.lstore X108.here hx rfl (hb hby at_60) rfl (l' := #[.val (.int p1), .val (.int p2), .val (.int p3), .val (.int p4), .val (.int p5), .val (.int (2 : Int32)), .val (.ref aa), .val (.long (1 : Int64)), .second]) rfl q) ?_
    show Rch p e below _ T108 (mkF m 62 #[.val (.int p1), .val (.int p2), .val (.int p3), .val (.int p4), .val (.int p5), .val (.int (2 : Int32)), .val (.ref aa), .val (.long (1 : Int64)), .second] [])
    refine Rch.go (fun _ q => XS.iload X108.here hx rfl (hb hby at_62) rfl  q) ?_
    show Rch p e below _ T108 (mkF m 64 #[.val (.int p1), .val (.int p2), .val (.int p3), .val (.int p4), .val (.int p5), .val (.int (2 : Int32)), .val (.ref aa), .val (.long (1 : Int64)), .second] [(.int (2 : Int32))])
    refine Rch.go (fun _ q => XS.iconst X108.here hx rfl (hb hby at_64) q) ?_
    show Rch p e below _ T108 (mkF m 65 #[.val (.int p1), .val (.int p2), .val (.int p3), .val (.int p4), .val (.int p5), .val (.int (2 : Int32)), .val (.ref aa), .val (.long (1 : Int64)), .second] [(.int (4 : Int32)), (.int (2 : Int32))])
    refine Rch.go (fun _ q => XS.icmpYes X108.here hx rfl (pc0 := 65) (pc' := 76) rfl (hb hby at_65) rfl (tlt (by decide)).1 (by decide) (by decide) q) ?_
    show Rch p e below _ T108 (mkF m 76 #[.val (.int p1), .val (.int p2), .val (.int p3), .val (.int p4), .val (.int p5), .val (.int (2 : Int32)), .val (.ref aa), .val (.long (1 : Int64)), .second] [])
    refine Rch.go (fun _ q => XS.iload X108.here hx rfl (hb hby at_76) rfl  q) ?_
    show Rch p e below _ T108 (mkF m 78 #[.val (.int p1), .val (.int p2), .val (.int p3), .val (.int p4), .val (.int p5), .val (.int (2 : Int32)), .val (.ref aa), .val (.long (1 : Int64)), .second] [(.int (2 : Int32))])
    refine Rch.go (fun _ q => XS.iconst X108.here hx rfl (hb hby at_78) q) ?_
    show Rch p e below _ T108 (mkF m 79 #[.val (.int p1), .val (.int p2), .val (.int p3), .val (.int p4), .val (.int p5), .val (.int (2 : Int32)), .val (.ref aa), .val (.long (1 : Int64)), .second] [(.int (3 : Int32)), (.int (2 : Int32))])
    refine Rch.go (fun _ q => XS.icmpYes X108.here hx rfl (pc0 := 79) (pc' := 89) rfl (hb hby at_79) rfl (tlt (by decide)).1 (by decide) (by decide) q) ?_
    show Rch p e below _ T108 (mkF m 89 #[.val (.int p1), .val (.int p2), .val (.int p3), .val (.int p4), .val (.int p5), .val (.int (2 : Int32)), .val (.ref aa), .val (.long (1 : Int64)), .second] [])
    refine Rch.go (fun _ q => XS.iload X108.here hx rfl (hb hby at_89) rfl  q) ?_
    show Rch p e below _ T108 (mkF m 91 #[.val (.int p1), .val (.int p2), .val (.int p3), .val (.int p4), .val (.int p5), .val (.int (2 : Int32)), .val (.ref aa), .val (.long (1 : Int64)), .second] [(.int (2 : Int32))])
    refine Rch.go (fun _ q => XS.iconst X108.here hx rfl (hb hby at_91) q) ?_
    show Rch p e below _ T108 (mkF m 92 #[.val (.int p1), .val (.int p2), .val (.int p3), .val (.int p4), .val (.int p5), .val (.int (2 : Int32)), .val (.ref aa), .val (.long (1 : Int64)), .second] [(.int (2 : Int32)), (.int (2 : Int32))])
    refine Rch.go (fun _ q => XS.icmpNo X108.here hx rfl (hb hby at_92) rfl (flt (by decide)).1 q) ?_
    show Rch p e below _ T108 (mkF m 95 #[.val (.int p1), .val (.int p2), .val (.int p3), .val (.int p4), .val (.int p5), .val (.int (2 : Int32)), .val (.ref aa), .val (.long (1 : Int64)), .second] [])
    refine Rch.go (fun _ q => XS.lload X108.here hx rfl (hb hby at_95) rfl  q) ?_
    show Rch p e below _ T108 (mkF m 97 #[.val (.int p1), .val (.int p2), .val (.int p3), .val (.int p4), .val (.int p5), .val (.int (2 : Int32)), .val (.ref aa), .val (.long (1 : Int64)), .second] [(.long (1 : Int64))])
    refine Rch.go (fun _ q => XS.iloadN X108.here hx rfl (hb hby at_97) rfl  q) ?_
    show Rch p e below _ T108 (mkF m 98 #[.val (.int p1), .val (.int p2), .val (.int p3), .val (.int p4), .val (.int p5), .val (.int (2 : Int32)), .val (.ref aa), .val (.long (1 : Int64)), .second] [(.int p3), (.long (1 : Int64))])
    refine Rch.go (fun _ q => XS.i2l X108.here hx rfl (hb hby at_98) rfl q) ?_
    show Rch p e below _ T108 (mkF m 99 #[.val (.int p1), .val (.int p2), .val (.int p3), .val (.int p4), .val (.int p5), .val (.int (2 : Int32)), .val (.ref aa), .val (.long (1 : Int64)), .second] [(.long (p3.toInt64)), (.long (1 : Int64))])
    refine Rch.go (fun _ q => XS.lmul X108.here hx rfl (hb hby at_99) rfl q) ?_
    show Rch p e below _ T108 (mkF m 100 #[.val (.int p1), .val (.int p2), .val (.int p3), .val (.int p4), .val (.int p5), .val (.int (2 : Int32)), .val (.ref aa), .val (.long (1 : Int64)), .second] [(.long ((1 : Int64) * (p3.toInt64)))])
    refine Rch.go (fun _ q => XS.lstore X108.here hx rfl (hb hby at_100) rfl (l' := #[.val (.int p1), .val (.int p2), .val (.int p3), .val (.int p4), .val (.int p5), .val (.int (2 : Int32)), .val (.ref aa), .val (.long ((1 : Int64) * (p3.toInt64))), .second]) rfl q) ?_
    show Rch p e below _ T108 (mkF m 102 #[.val (.int p1), .val (.int p2), .val (.int p3), .val (.int p4), .val (.int p5), .val (.int (2 : Int32)), .val (.ref aa), .val (.long ((1 : Int64) * (p3.toInt64))), .second] [])
    refine Rch.go (fun _ q => XS.iload X108.here hx rfl (hb hby at_102) rfl  q) ?_
    show Rch p e below _ T108 (mkF m 104 #[.val (.int p1), .val (.int p2), .val (.int p3), .val (.int p4), .val (.int p5), .val (.int (2 : Int32)), .val (.ref aa), .val (.long ((1 : Int64) * (p3.toInt64))), .second] [(.int (2 : Int32))])
    refine Rch.go (fun _ q => XS.iconst X108.here hx rfl (hb hby at_104) q) ?_
    show Rch p e below _ T108 (mkF m 105 #[.val (.int p1), .val (.int p2), .val (.int p3), .val (.int p4), .val (.int p5), .val (.int (2 : Int32)), .val (.ref aa), .val (.long ((1 : Int64) * (p3.toInt64))), .second] [(.int (1 : Int32)), (.int (2 : Int32))])
    refine Rch.go (fun _ q => XS.icmpNo X108.here hx rfl (hb hby at_105) rfl (flt (by decide)).1 q) ?_
    show Rch p e below _ T108 (mkF m 108 #[.val (.int p1), .val (.int p2), .val (.int p3), .val (.int p4), .val (.int p5), .val (.int (2 : Int32)), .val (.ref aa), .val (.long ((1 : Int64) * (p3.toInt64))), .second] [])
    refine Rch.go (fun _ q => XS.lload X108.here hx rfl (hb hby at_108) rfl  q) ?_
    show Rch p e below _ T108 (mkF m 110 #[.val (.int p1), .val (.int p2), .val (.int p3), .val (.int p4), .val (.int p5), .val (.int (2 : Int32)), .val (.ref aa), .val (.long ((1 : Int64) * (p3.toInt64))), .second] [(.long ((1 : Int64) * (p3.toInt64)))])
    refine Rch.go (fun _ q => XS.iloadN X108.here hx rfl (hb hby at_110) rfl  q) ?_
    show Rch p e below _ T108 (mkF m 111 #[.val (.int p1), .val (.int p2), .val (.int p3), .val (.int p4), .val (.int p5), .val (.int (2 : Int32)), .val (.ref aa), .val (.long ((1 : Int64) * (p3.toInt64))), .second] [(.int p2), (.long ((1 : Int64) * (p3.toInt64)))])
    refine Rch.go (fun _ q => XS.i2l X108.here hx rfl (hb hby at_111) rfl q) ?_
    show Rch p e below _ T108 (mkF m 112 #[.val (.int p1), .val (.int p2), .val (.int p3), .val (.int p4), .val (.int p5), .val (.int (2 : Int32)), .val (.ref aa), .val (.long ((1 : Int64) * (p3.toInt64))), .second] [(.long (p2.toInt64)), (.long ((1 : Int64) * (p3.toInt64)))])
    refine Rch.go (fun _ q => XS.lmul X108.here hx rfl (hb hby at_112) rfl q) ?_
    show Rch p e below _ T108 (mkF m 113 #[.val (.int p1), .val (.int p2), .val (.int p3), .val (.int p4), .val (.int p5), .val (.int (2 : Int32)), .val (.ref aa), .val (.long ((1 : Int64) * (p3.toInt64))), .second] [(.long (((1 : Int64) * (p3.toInt64)) * (p2.toInt64)))])
    refine Rch.go (fun _ q => XS.lstore X108.here hx rfl (hb hby at_113) rfl (l' := #[.val (.int p1), .val (.int p2), .val (.int p3), .val (.int p4), .val (.int p5), .val (.int (2 : Int32)), .val (.ref aa), .val (.long (((1 : Int64) * (p3.toInt64)) * (p2.toInt64))), .second]) rfl q) ?_
    show Rch p e below _ T108 (mkF m 115 #[.val (.int p1), .val (.int p2), .val (.int p3), .val (.int p4), .val (.int p5), .val (.int (2 : Int32)), .val (.ref aa), .val (.long (((1 : Int64) * (p3.toInt64)) * (p2.toInt64))), .second] [])
    refine Rch.go (fun _ q => XS.aload X108.here hx rfl (hb hby at_115) rfl rfl q) ?_
    show Rch p e below _ T108 (mkF m 117 #[.val (.int p1), .val (.int p2), .val (.int p3), .val (.int p4), .val (.int p5), .val (.int (2 : Int32)), .val (.ref aa), .val (.long (((1 : Int64) * (p3.toInt64)) * (p2.toInt64))), .second] [(.ref aa)])
    obtain ⟨_, _, ⟨T109, L109, k109, n109⟩, -, X109, ⟨Lc109, hQ109, l109, y109, z109⟩, st109⟩ := Jvm.LawKit.callS X108 hx (y := (⟨"com/example/heverlee/heverlee/engine/Factor", "entries", "([I)J"⟩ : MethodName)) hown (mvT hZ (hw _ (List.mem_of_getElem? (i := 2) rfl))) (mvT hZ (hw _ (List.mem_of_getElem? (i := 3) rfl))) (mvT hZ (hw _ (List.mem_of_getElem? (i := 4) rfl))) (mvT hZ (hw _ (List.mem_of_getElem? (i := 5) rfl))) (by decide) (backOf (W := 0) (rm1_2 l Z a0 hw [] aa kk_aa p2 p3 h108 n0 Z108 V_aa_108) hZ (hw _ (List.mem_of_getElem? (i := 5) rfl)) (hw _ (List.mem_of_getElem? (i := 4) rfl)) (by decide) (by decide)) (g := (mkF m 117 #[.val (.int p1), .val (.int p2), .val (.int p3), .val (.int p4), .val (.int p5), .val (.int (2 : Int32)), .val (.ref aa), .val (.long (((1 : Int64) * (p3.toInt64)) * (p2.toInt64))), .second] [(.ref aa)])) rfl (by rw [hml]; rfl) (argsL := [(.ref aa)]) (rest := []) (lenOf own_pd0 rfl) rfl (by show 2 * 0 + _ ≤ _; exact Nat.le_of_eq rfl) (hb hby at_117) (fun _ _ => ⟨rfl, e108, (by decide : 1 + 0 ≤ _), (by decide : 2 + 0 ≤ _)⟩)
    dsimp only [Pt.U, Pt.locs, Pt.cells, Pt.slots] at X109 l109 y109 z109 st109 hQ109
    subst l109 y109 z109
    obtain ⟨rfl, Nc, ec⟩ := hQ109
    refine Rch.go st109 ?_
    show Rch p e below _ T109 (mkF m 120 #[.val (.int p1), .val (.int p2), .val (.int p3), .val (.int p4), .val (.int p5), .val (.int (2 : Int32)), .val (.ref aa), .val (.long (((1 : Int64) * (p3.toInt64)) * (p2.toInt64))), .second] [(.long (((1 : Int64) * (p2.toInt64)) * (p3.toInt64)))])
    have N109 := Fr.app N108 Nc
    have e109 := ec
    refine Rch.go (fun _ q => XS.lload X109.here hx rfl (hb hby at_120) rfl  q) ?_
    show Rch p e below _ T109 (mkF m 122 #[.val (.int p1), .val (.int p2), .val (.int p3), .val (.int p4), .val (.int p5), .val (.int (2 : Int32)), .val (.ref aa), .val (.long (((1 : Int64) * (p3.toInt64)) * (p2.toInt64))), .second] [(.long (((1 : Int64) * (p3.toInt64)) * (p2.toInt64))), (.long (((1 : Int64) * (p2.toInt64)) * (p3.toInt64)))])
    refine Rch.go (fun _ q => XS.lcmp X109.here hx rfl (hb hby at_122) rfl q) ?_
    show Rch p e below _ T109 (mkF m 123 #[.val (.int p1), .val (.int p2), .val (.int p3), .val (.int p4), .val (.int p5), .val (.int (2 : Int32)), .val (.ref aa), .val (.long (((1 : Int64) * (p3.toInt64)) * (p2.toInt64))), .second] [(.int (lcmpW (((1 : Int64) * (p2.toInt64)) * (p3.toInt64)) (((1 : Int64) * (p3.toInt64)) * (p2.toInt64))))])
    have hq : (((1 : Int64) * (p2.toInt64)) * (p3.toInt64)) = (((1 : Int64) * (p3.toInt64)) * (p2.toInt64)) := by ac_rfl
    refine Rch.go (fun _ q => XS.ifNo X109.here hx rfl (hb hby at_123) rfl ((if0 _ _).trans (teq ((lw_eq _ _).mpr hq)).2) q) ?_
    show Rch p e below _ T109 (mkF m 126 #[.val (.int p1), .val (.int p2), .val (.int p3), .val (.int p4), .val (.int p5), .val (.int (2 : Int32)), .val (.ref aa), .val (.long (((1 : Int64) * (p3.toInt64)) * (p2.toInt64))), .second] [])
    refine Rch.go (fun _ q => XS.iconst X109.here hx rfl (hb hby at_126) q) ?_
    show Rch p e below _ T109 (mkF m 127 #[.val (.int p1), .val (.int p2), .val (.int p3), .val (.int p4), .val (.int p5), .val (.int (2 : Int32)), .val (.ref aa), .val (.long (((1 : Int64) * (p3.toInt64)) * (p2.toInt64))), .second] [(.int (1 : Int32))])
    refine Rch.go (fun _ q => XS.goto X109.here hx rfl (pc0 := 127) (pc' := 131) rfl (hb hby at_127) (by decide) (by decide) q) ?_
    show Rch p e below _ T109 (mkF m 131 #[.val (.int p1), .val (.int p2), .val (.int p3), .val (.int p4), .val (.int p5), .val (.int (2 : Int32)), .val (.ref aa), .val (.long (((1 : Int64) * (p3.toInt64)) * (p2.toInt64))), .second] [(.int (1 : Int32))])
    refine Rch.retZ X109 hx hlk Bd.returns (hb hby at_131) (by decide) (by decide) ?_
    unfold Qrm0
    exact ⟨rfl, N109⟩
  · rw [hr]
    show Rch p e below _ s₁ (mkF m 8 #[.val (.int p1), .val (.int p2), .val (.int p3), .val (.int p4), .val (.int p5), .val (.int (3 : Int32)), .unset, .unset, .unset] [])
    refine Rch.go (fun _ q => XS.iload X0.here hx rfl (hb hby at_8) rfl  q) ?_
    show Rch p e below _ s₁ (mkF m 10 #[.val (.int p1), .val (.int p2), .val (.int p3), .val (.int p4), .val (.int p5), .val (.int (3 : Int32)), .unset, .unset, .unset] [(.int (3 : Int32))])
    obtain ⟨T110, h110, kk_aa, X110, e110, E110, V110, st110⟩ := naw X0 hx hZ (hw _ (List.mem_of_getElem? (i := 1) rfl)) e0 (g := (mkF m 10 #[.val (.int p1), .val (.int p2), .val (.int p3), .val (.int p4), .val (.int p5), .val (.int (3 : Int32)), .unset, .unset, .unset] [(.int (3 : Int32))])) rfl (hb hby at_10) rfl (by decide) 3 (cap := 3) (by decide) (by decide) (by decide) (by decide)
    obtain ⟨aa, g110⟩ : ∃ q, q = Array.size h0 := ⟨_, rfl⟩
    rw [← g110] at V110 st110
    have V_aa_110 : Arv Z h110 aa kk_aa .int (3 : Int32) [(.int 0), (.int 0), (.int 0)] (.int 0) := V110
    have le_aa : n0 ≤ aa := by rw [g110]; exact Z0
    have Z110 : n0 ≤ h110.size := Nat.le_trans Z0 E110.1
    refine Rch.go st110 ?_
    show Rch p e below _ T110 (mkF m 12 #[.val (.int p1), .val (.int p2), .val (.int p3), .val (.int p4), .val (.int p5), .val (.int (3 : Int32)), .unset, .unset, .unset] [(.ref aa)])
    refine Rch.go (fun _ q => XS.astore X110.here hx rfl (hb hby at_12) rfl rfl (l' := #[.val (.int p1), .val (.int p2), .val (.int p3), .val (.int p4), .val (.int p5), .val (.int (3 : Int32)), .val (.ref aa), .unset, .unset]) rfl q) ?_
    show Rch p e below _ T110 (mkF m 14 #[.val (.int p1), .val (.int p2), .val (.int p3), .val (.int p4), .val (.int p5), .val (.int (3 : Int32)), .val (.ref aa), .unset, .unset] [])
    refine Rch.go (fun _ q => XS.iload X110.here hx rfl (hb hby at_14) rfl  q) ?_
    show Rch p e below _ T110 (mkF m 16 #[.val (.int p1), .val (.int p2), .val (.int p3), .val (.int p4), .val (.int p5), .val (.int (3 : Int32)), .val (.ref aa), .unset, .unset] [(.int (3 : Int32))])
    refine Rch.go (fun _ q => XS.iconst X110.here hx rfl (hb hby at_16) q) ?_
    show Rch p e below _ T110 (mkF m 17 #[.val (.int p1), .val (.int p2), .val (.int p3), .val (.int p4), .val (.int p5), .val (.int (3 : Int32)), .val (.ref aa), .unset, .unset] [(.int (1 : Int32)), (.int (3 : Int32))])
    refine Rch.go (fun _ q => XS.icmpNo X110.here hx rfl (hb hby at_17) rfl (flt (by decide)).1 q) ?_
    show Rch p e below _ T110 (mkF m 20 #[.val (.int p1), .val (.int p2), .val (.int p3), .val (.int p4), .val (.int p5), .val (.int (3 : Int32)), .val (.ref aa), .unset, .unset] [])
    refine Rch.go (fun _ q => XS.aload X110.here hx rfl (hb hby at_20) rfl rfl q) ?_
    show Rch p e below _ T110 (mkF m 22 #[.val (.int p1), .val (.int p2), .val (.int p3), .val (.int p4), .val (.int p5), .val (.int (3 : Int32)), .val (.ref aa), .unset, .unset] [(.ref aa)])
    refine Rch.go (fun _ q => XS.iconst X110.here hx rfl (hb hby at_22) q) ?_
    show Rch p e below _ T110 (mkF m 23 #[.val (.int p1), .val (.int p2), .val (.int p3), .val (.int p4), .val (.int p5), .val (.int (3 : Int32)), .val (.ref aa), .unset, .unset] [(.int (0 : Int32)), (.ref aa)])
    refine Rch.go (fun _ q => XS.iloadN X110.here hx rfl (hb hby at_23) rfl  q) ?_
    show Rch p e below _ T110 (mkF m 24 #[.val (.int p1), .val (.int p2), .val (.int p3), .val (.int p4), .val (.int p5), .val (.int (3 : Int32)), .val (.ref aa), .unset, .unset] [(.int p2), (.int (0 : Int32)), (.ref aa)])
    obtain ⟨T111, h111, X111, e111, W111, V111, st111⟩ := sdI X110 hx hZ e110 V_aa_110 (j := (0 : Int32)) (by decide) 0 (by decide) (Nat.le_of_ble_eq_true rfl) (g := (mkF m 24 #[.val (.int p1), .val (.int p2), .val (.int p3), .val (.int p4), .val (.int p5), .val (.int (3 : Int32)), .val (.ref aa), .unset, .unset] [(.int p2), (.int (0 : Int32)), (.ref aa)])) rfl rfl (hb hby at_24)
    have V_aa_111 : Arv Z h111 aa kk_aa .int (3 : Int32) [(.int p2), (.int 0), (.int 0)] (.int 0) := V111
    have N111 := Fr.snoc X111 N0 le_aa
    have Z111 : n0 ≤ h111.size := by rw [W111.size]; exact Z110
    refine Rch.go st111 ?_
    show Rch p e below _ T111 (mkF m 25 #[.val (.int p1), .val (.int p2), .val (.int p3), .val (.int p4), .val (.int p5), .val (.int (3 : Int32)), .val (.ref aa), .unset, .unset] [])
    refine Rch.go (fun _ q => XS.iload X111.here hx rfl (hb hby at_25) rfl  q) ?_
    show Rch p e below _ T111 (mkF m 27 #[.val (.int p1), .val (.int p2), .val (.int p3), .val (.int p4), .val (.int p5), .val (.int (3 : Int32)), .val (.ref aa), .unset, .unset] [(.int (3 : Int32))])
    refine Rch.go (fun _ q => XS.iconst X111.here hx rfl (hb hby at_27) q) ?_
    show Rch p e below _ T111 (mkF m 28 #[.val (.int p1), .val (.int p2), .val (.int p3), .val (.int p4), .val (.int p5), .val (.int (3 : Int32)), .val (.ref aa), .unset, .unset] [(.int (2 : Int32)), (.int (3 : Int32))])
    refine Rch.go (fun _ q => XS.icmpNo X111.here hx rfl (hb hby at_28) rfl (flt (by decide)).1 q) ?_
    show Rch p e below _ T111 (mkF m 31 #[.val (.int p1), .val (.int p2), .val (.int p3), .val (.int p4), .val (.int p5), .val (.int (3 : Int32)), .val (.ref aa), .unset, .unset] [])
    refine Rch.go (fun _ q => XS.aload X111.here hx rfl (hb hby at_31) rfl rfl q) ?_
    show Rch p e below _ T111 (mkF m 33 #[.val (.int p1), .val (.int p2), .val (.int p3), .val (.int p4), .val (.int p5), .val (.int (3 : Int32)), .val (.ref aa), .unset, .unset] [(.ref aa)])
    refine Rch.go (fun _ q => XS.iconst X111.here hx rfl (hb hby at_33) q) ?_
    show Rch p e below _ T111 (mkF m 34 #[.val (.int p1), .val (.int p2), .val (.int p3), .val (.int p4), .val (.int p5), .val (.int (3 : Int32)), .val (.ref aa), .unset, .unset] [(.int (1 : Int32)), (.ref aa)])
    refine Rch.go (fun _ q => XS.iloadN X111.here hx rfl (hb hby at_34) rfl  q) ?_
    show Rch p e below _ T111 (mkF m 35 #[.val (.int p1), .val (.int p2), .val (.int p3), .val (.int p4), .val (.int p5), .val (.int (3 : Int32)), .val (.ref aa), .unset, .unset] [(.int p3), (.int (1 : Int32)), (.ref aa)])
    obtain ⟨T112, h112, X112, e112, W112, V112, st112⟩ := sdI X111 hx hZ e111 V_aa_111 (j := (1 : Int32)) (by decide) 1 (by decide) (Nat.le_of_ble_eq_true rfl) (g := (mkF m 35 #[.val (.int p1), .val (.int p2), .val (.int p3), .val (.int p4), .val (.int p5), .val (.int (3 : Int32)), .val (.ref aa), .unset, .unset] [(.int p3), (.int (1 : Int32)), (.ref aa)])) rfl rfl (hb hby at_35)
    have V_aa_112 : Arv Z h112 aa kk_aa .int (3 : Int32) [(.int p2), (.int p3), (.int 0)] (.int 0) := V112
    have N112 := Fr.snoc X112 N111 le_aa
    have Z112 : n0 ≤ h112.size := by rw [W112.size]; exact Z111
    refine Rch.go st112 ?_
    show Rch p e below _ T112 (mkF m 36 #[.val (.int p1), .val (.int p2), .val (.int p3), .val (.int p4), .val (.int p5), .val (.int (3 : Int32)), .val (.ref aa), .unset, .unset] [])
    refine Rch.go (fun _ q => XS.iload X112.here hx rfl (hb hby at_36) rfl  q) ?_
    show Rch p e below _ T112 (mkF m 38 #[.val (.int p1), .val (.int p2), .val (.int p3), .val (.int p4), .val (.int p5), .val (.int (3 : Int32)), .val (.ref aa), .unset, .unset] [(.int (3 : Int32))])
    refine Rch.go (fun _ q => XS.iconst X112.here hx rfl (hb hby at_38) q) ?_
    show Rch p e below _ T112 (mkF m 39 #[.val (.int p1), .val (.int p2), .val (.int p3), .val (.int p4), .val (.int p5), .val (.int (3 : Int32)), .val (.ref aa), .unset, .unset] [(.int (3 : Int32)), (.int (3 : Int32))])
    refine Rch.go (fun _ q => XS.icmpNo X112.here hx rfl (hb hby at_39) rfl (flt (by decide)).1 q) ?_
    show Rch p e below _ T112 (mkF m 42 #[.val (.int p1), .val (.int p2), .val (.int p3), .val (.int p4), .val (.int p5), .val (.int (3 : Int32)), .val (.ref aa), .unset, .unset] [])
    refine Rch.go (fun _ q => XS.aload X112.here hx rfl (hb hby at_42) rfl rfl q) ?_
    show Rch p e below _ T112 (mkF m 44 #[.val (.int p1), .val (.int p2), .val (.int p3), .val (.int p4), .val (.int p5), .val (.int (3 : Int32)), .val (.ref aa), .unset, .unset] [(.ref aa)])
    refine Rch.go (fun _ q => XS.iconst X112.here hx rfl (hb hby at_44) q) ?_
    show Rch p e below _ T112 (mkF m 45 #[.val (.int p1), .val (.int p2), .val (.int p3), .val (.int p4), .val (.int p5), .val (.int (3 : Int32)), .val (.ref aa), .unset, .unset] [(.int (2 : Int32)), (.ref aa)])
    refine Rch.go (fun _ q => XS.iloadN X112.here hx rfl (hb hby at_45) rfl  q) ?_
    show Rch p e below _ T112 (mkF m 46 #[.val (.int p1), .val (.int p2), .val (.int p3), .val (.int p4), .val (.int p5), .val (.int (3 : Int32)), .val (.ref aa), .unset, .unset] [(.int p4), (.int (2 : Int32)), (.ref aa)])
    obtain ⟨T113, h113, X113, e113, W113, V113, st113⟩ := sdI X112 hx hZ e112 V_aa_112 (j := (2 : Int32)) (by decide) 2 (by decide) (Nat.le_of_ble_eq_true rfl) (g := (mkF m 46 #[.val (.int p1), .val (.int p2), .val (.int p3), .val (.int p4), .val (.int p5), .val (.int (3 : Int32)), .val (.ref aa), .unset, .unset] [(.int p4), (.int (2 : Int32)), (.ref aa)])) rfl rfl (hb hby at_46)
    have V_aa_113 : Arv Z h113 aa kk_aa .int (3 : Int32) [(.int p2), (.int p3), (.int p4)] (.int 0) := V113
    have N113 := Fr.snoc X113 N112 le_aa
    have Z113 : n0 ≤ h113.size := by rw [W113.size]; exact Z112
    refine Rch.go st113 ?_
    show Rch p e below _ T113 (mkF m 47 #[.val (.int p1), .val (.int p2), .val (.int p3), .val (.int p4), .val (.int p5), .val (.int (3 : Int32)), .val (.ref aa), .unset, .unset] [])
    refine Rch.go (fun _ q => XS.iload X113.here hx rfl (hb hby at_47) rfl  q) ?_
    show Rch p e below _ T113 (mkF m 49 #[.val (.int p1), .val (.int p2), .val (.int p3), .val (.int p4), .val (.int p5), .val (.int (3 : Int32)), .val (.ref aa), .unset, .unset] [(.int (3 : Int32))])
    refine Rch.go (fun _ q => XS.iconst X113.here hx rfl (hb hby at_49) q) ?_
    show Rch p e below _ T113 (mkF m 50 #[.val (.int p1), .val (.int p2), .val (.int p3), .val (.int p4), .val (.int p5), .val (.int (3 : Int32)), .val (.ref aa), .unset, .unset] [(.int (4 : Int32)), (.int (3 : Int32))])
    refine Rch.go (fun _ q => XS.icmpYes X113.here hx rfl (pc0 := 50) (pc' := 59) rfl (hb hby at_50) rfl (tlt (by decide)).1 (by decide) (by decide) q) ?_
    show Rch p e below _ T113 (mkF m 59 #[.val (.int p1), .val (.int p2), .val (.int p3), .val (.int p4), .val (.int p5), .val (.int (3 : Int32)), .val (.ref aa), .unset, .unset] [])
    refine Rch.go (fun _ q => XS.lconst X113.here hx rfl (hb hby at_59) q) ?_
    show Rch p e below _ T113 (mkF m 60 #[.val (.int p1), .val (.int p2), .val (.int p3), .val (.int p4), .val (.int p5), .val (.int (3 : Int32)), .val (.ref aa), .unset, .unset] [(.long (1 : Int64))])
    refine Rch.go (fun _ q => XS.lstore X113.here hx rfl (hb hby at_60) rfl (l' := #[.val (.int p1), .val (.int p2), .val (.int p3), .val (.int p4), .val (.int p5), .val (.int (3 : Int32)), .val (.ref aa), .val (.long (1 : Int64)), .second]) rfl q) ?_
    show Rch p e below _ T113 (mkF m 62 #[.val (.int p1), .val (.int p2), .val (.int p3), .val (.int p4), .val (.int p5), .val (.int (3 : Int32)), .val (.ref aa), .val (.long (1 : Int64)), .second] [])
    refine Rch.go (fun _ q => XS.iload X113.here hx rfl (hb hby at_62) rfl  q) ?_
    show Rch p e below _ T113 (mkF m 64 #[.val (.int p1), .val (.int p2), .val (.int p3), .val (.int p4), .val (.int p5), .val (.int (3 : Int32)), .val (.ref aa), .val (.long (1 : Int64)), .second] [(.int (3 : Int32))])
    refine Rch.go (fun _ q => XS.iconst X113.here hx rfl (hb hby at_64) q) ?_
    show Rch p e below _ T113 (mkF m 65 #[.val (.int p1), .val (.int p2), .val (.int p3), .val (.int p4), .val (.int p5), .val (.int (3 : Int32)), .val (.ref aa), .val (.long (1 : Int64)), .second] [(.int (4 : Int32)), (.int (3 : Int32))])
    refine Rch.go (fun _ q => XS.icmpYes X113.here hx rfl (pc0 := 65) (pc' := 76) rfl (hb hby at_65) rfl (tlt (by decide)).1 (by decide) (by decide) q) ?_
    show Rch p e below _ T113 (mkF m 76 #[.val (.int p1), .val (.int p2), .val (.int p3), .val (.int p4), .val (.int p5), .val (.int (3 : Int32)), .val (.ref aa), .val (.long (1 : Int64)), .second] [])
    refine Rch.go (fun _ q => XS.iload X113.here hx rfl (hb hby at_76) rfl  q) ?_
    show Rch p e below _ T113 (mkF m 78 #[.val (.int p1), .val (.int p2), .val (.int p3), .val (.int p4), .val (.int p5), .val (.int (3 : Int32)), .val (.ref aa), .val (.long (1 : Int64)), .second] [(.int (3 : Int32))])
    refine Rch.go (fun _ q => XS.iconst X113.here hx rfl (hb hby at_78) q) ?_
    show Rch p e below _ T113 (mkF m 79 #[.val (.int p1), .val (.int p2), .val (.int p3), .val (.int p4), .val (.int p5), .val (.int (3 : Int32)), .val (.ref aa), .val (.long (1 : Int64)), .second] [(.int (3 : Int32)), (.int (3 : Int32))])
    refine Rch.go (fun _ q => XS.icmpNo X113.here hx rfl (hb hby at_79) rfl (flt (by decide)).1 q) ?_
    show Rch p e below _ T113 (mkF m 82 #[.val (.int p1), .val (.int p2), .val (.int p3), .val (.int p4), .val (.int p5), .val (.int (3 : Int32)), .val (.ref aa), .val (.long (1 : Int64)), .second] [])
    refine Rch.go (fun _ q => XS.lload X113.here hx rfl (hb hby at_82) rfl  q) ?_
    show Rch p e below _ T113 (mkF m 84 #[.val (.int p1), .val (.int p2), .val (.int p3), .val (.int p4), .val (.int p5), .val (.int (3 : Int32)), .val (.ref aa), .val (.long (1 : Int64)), .second] [(.long (1 : Int64))])
    refine Rch.go (fun _ q => XS.iloadN X113.here hx rfl (hb hby at_84) rfl  q) ?_
    show Rch p e below _ T113 (mkF m 85 #[.val (.int p1), .val (.int p2), .val (.int p3), .val (.int p4), .val (.int p5), .val (.int (3 : Int32)), .val (.ref aa), .val (.long (1 : Int64)), .second] [(.int p4), (.long (1 : Int64))])
    refine Rch.go (fun _ q => XS.i2l X113.here hx rfl (hb hby at_85) rfl q) ?_
    show Rch p e below _ T113 (mkF m 86 #[.val (.int p1), .val (.int p2), .val (.int p3), .val (.int p4), .val (.int p5), .val (.int (3 : Int32)), .val (.ref aa), .val (.long (1 : Int64)), .second] [(.long (p4.toInt64)), (.long (1 : Int64))])
    refine Rch.go (fun _ q => XS.lmul X113.here hx rfl (hb hby at_86) rfl q) ?_
    show Rch p e below _ T113 (mkF m 87 #[.val (.int p1), .val (.int p2), .val (.int p3), .val (.int p4), .val (.int p5), .val (.int (3 : Int32)), .val (.ref aa), .val (.long (1 : Int64)), .second] [(.long ((1 : Int64) * (p4.toInt64)))])
    refine Rch.go (fun _ q => XS.lstore X113.here hx rfl (hb hby at_87) rfl (l' := #[.val (.int p1), .val (.int p2), .val (.int p3), .val (.int p4), .val (.int p5), .val (.int (3 : Int32)), .val (.ref aa), .val (.long ((1 : Int64) * (p4.toInt64))), .second]) rfl q) ?_
    show Rch p e below _ T113 (mkF m 89 #[.val (.int p1), .val (.int p2), .val (.int p3), .val (.int p4), .val (.int p5), .val (.int (3 : Int32)), .val (.ref aa), .val (.long ((1 : Int64) * (p4.toInt64))), .second] [])
    refine Rch.go (fun _ q => XS.iload X113.here hx rfl (hb hby at_89) rfl  q) ?_
    show Rch p e below _ T113 (mkF m 91 #[.val (.int p1), .val (.int p2), .val (.int p3), .val (.int p4), .val (.int p5), .val (.int (3 : Int32)), .val (.ref aa), .val (.long ((1 : Int64) * (p4.toInt64))), .second] [(.int (3 : Int32))])
    refine Rch.go (fun _ q => XS.iconst X113.here hx rfl (hb hby at_91) q) ?_
    show Rch p e below _ T113 (mkF m 92 #[.val (.int p1), .val (.int p2), .val (.int p3), .val (.int p4), .val (.int p5), .val (.int (3 : Int32)), .val (.ref aa), .val (.long ((1 : Int64) * (p4.toInt64))), .second] [(.int (2 : Int32)), (.int (3 : Int32))])
    refine Rch.go (fun _ q => XS.icmpNo X113.here hx rfl (hb hby at_92) rfl (flt (by decide)).1 q) ?_
    show Rch p e below _ T113 (mkF m 95 #[.val (.int p1), .val (.int p2), .val (.int p3), .val (.int p4), .val (.int p5), .val (.int (3 : Int32)), .val (.ref aa), .val (.long ((1 : Int64) * (p4.toInt64))), .second] [])
    refine Rch.go (fun _ q => XS.lload X113.here hx rfl (hb hby at_95) rfl  q) ?_
    show Rch p e below _ T113 (mkF m 97 #[.val (.int p1), .val (.int p2), .val (.int p3), .val (.int p4), .val (.int p5), .val (.int (3 : Int32)), .val (.ref aa), .val (.long ((1 : Int64) * (p4.toInt64))), .second] [(.long ((1 : Int64) * (p4.toInt64)))])
    refine Rch.go (fun _ q => XS.iloadN X113.here hx rfl (hb hby at_97) rfl  q) ?_
    show Rch p e below _ T113 (mkF m 98 #[.val (.int p1), .val (.int p2), .val (.int p3), .val (.int p4), .val (.int p5), .val (.int (3 : Int32)), .val (.ref aa), .val (.long ((1 : Int64) * (p4.toInt64))), .second] [(.int p3), (.long ((1 : Int64) * (p4.toInt64)))])
    refine Rch.go (fun _ q => XS.i2l X113.here hx rfl (hb hby at_98) rfl q) ?_
    show Rch p e below _ T113 (mkF m 99 #[.val (.int p1), .val (.int p2), .val (.int p3), .val (.int p4), .val (.int p5), .val (.int (3 : Int32)), .val (.ref aa), .val (.long ((1 : Int64) * (p4.toInt64))), .second] [(.long (p3.toInt64)), (.long ((1 : Int64) * (p4.toInt64)))])
    refine Rch.go (fun _ q => XS.lmul X113.here hx rfl (hb hby at_99) rfl q) ?_
    show Rch p e below _ T113 (mkF m 100 #[.val (.int p1), .val (.int p2), .val (.int p3), .val (.int p4), .val (.int p5), .val (.int (3 : Int32)), .val (.ref aa), .val (.long ((1 : Int64) * (p4.toInt64))), .second] [(.long (((1 : Int64) * (p4.toInt64)) * (p3.toInt64)))])
    refine Rch.go (fun _ q => XS.lstore X113.here hx rfl (hb hby at_100) rfl (l' := #[.val (.int p1), .val (.int p2), .val (.int p3), .val (.int p4), .val (.int p5), .val (.int (3 : Int32)), .val (.ref aa), .val (.long (((1 : Int64) * (p4.toInt64)) * (p3.toInt64))), .second]) rfl q) ?_
    show Rch p e below _ T113 (mkF m 102 #[.val (.int p1), .val (.int p2), .val (.int p3), .val (.int p4), .val (.int p5), .val (.int (3 : Int32)), .val (.ref aa), .val (.long (((1 : Int64) * (p4.toInt64)) * (p3.toInt64))), .second] [])
    refine Rch.go (fun _ q => XS.iload X113.here hx rfl (hb hby at_102) rfl  q) ?_
    show Rch p e below _ T113 (mkF m 104 #[.val (.int p1), .val (.int p2), .val (.int p3), .val (.int p4), .val (.int p5), .val (.int (3 : Int32)), .val (.ref aa), .val (.long (((1 : Int64) * (p4.toInt64)) * (p3.toInt64))), .second] [(.int (3 : Int32))])
    refine Rch.go (fun _ q => XS.iconst X113.here hx rfl (hb hby at_104) q) ?_
    show Rch p e below _ T113 (mkF m 105 #[.val (.int p1), .val (.int p2), .val (.int p3), .val (.int p4), .val (.int p5), .val (.int (3 : Int32)), .val (.ref aa), .val (.long (((1 : Int64) * (p4.toInt64)) * (p3.toInt64))), .second] [(.int (1 : Int32)), (.int (3 : Int32))])
    refine Rch.go (fun _ q => XS.icmpNo X113.here hx rfl (hb hby at_105) rfl (flt (by decide)).1 q) ?_
    show Rch p e below _ T113 (mkF m 108 #[.val (.int p1), .val (.int p2), .val (.int p3), .val (.int p4), .val (.int p5), .val (.int (3 : Int32)), .val (.ref aa), .val (.long (((1 : Int64) * (p4.toInt64)) * (p3.toInt64))), .second] [])
    refine Rch.go (fun _ q => XS.lload X113.here hx rfl (hb hby at_108) rfl  q) ?_
    show Rch p e below _ T113 (mkF m 110 #[.val (.int p1), .val (.int p2), .val (.int p3), .val (.int p4), .val (.int p5), .val (.int (3 : Int32)), .val (.ref aa), .val (.long (((1 : Int64) * (p4.toInt64)) * (p3.toInt64))), .second] [(.long (((1 : Int64) * (p4.toInt64)) * (p3.toInt64)))])
    refine Rch.go (fun _ q => XS.iloadN X113.here hx rfl (hb hby at_110) rfl  q) ?_
    show Rch p e below _ T113 (mkF m 111 #[.val (.int p1), .val (.int p2), .val (.int p3), .val (.int p4), .val (.int p5), .val (.int (3 : Int32)), .val (.ref aa), .val (.long (((1 : Int64) * (p4.toInt64)) * (p3.toInt64))), .second] [(.int p2), (.long (((1 : Int64) * (p4.toInt64)) * (p3.toInt64)))])
    refine Rch.go (fun _ q => XS.i2l X113.here hx rfl (hb hby at_111) rfl q) ?_
    show Rch p e below _ T113 (mkF m 112 #[.val (.int p1), .val (.int p2), .val (.int p3), .val (.int p4), .val (.int p5), .val (.int (3 : Int32)), .val (.ref aa), .val (.long (((1 : Int64) * (p4.toInt64)) * (p3.toInt64))), .second] [(.long (p2.toInt64)), (.long (((1 : Int64) * (p4.toInt64)) * (p3.toInt64)))])
    refine Rch.go (fun _ q => XS.lmul X113.here hx rfl (hb hby at_112) rfl q) ?_
    show Rch p e below _ T113 (mkF m 113 #[.val (.int p1), .val (.int p2), .val (.int p3), .val (.int p4), .val (.int p5), .val (.int (3 : Int32)), .val (.ref aa), .val (.long (((1 : Int64) * (p4.toInt64)) * (p3.toInt64))), .second] [(.long ((((1 : Int64) * (p4.toInt64)) * (p3.toInt64)) * (p2.toInt64)))])
    refine Rch.go (fun _ q => XS.lstore X113.here hx rfl (hb hby at_113) rfl (l' := #[.val (.int p1), .val (.int p2), .val (.int p3), .val (.int p4), .val (.int p5), .val (.int (3 : Int32)), .val (.ref aa), .val (.long ((((1 : Int64) * (p4.toInt64)) * (p3.toInt64)) * (p2.toInt64))), .second]) rfl q) ?_
    show Rch p e below _ T113 (mkF m 115 #[.val (.int p1), .val (.int p2), .val (.int p3), .val (.int p4), .val (.int p5), .val (.int (3 : Int32)), .val (.ref aa), .val (.long ((((1 : Int64) * (p4.toInt64)) * (p3.toInt64)) * (p2.toInt64))), .second] [])
    refine Rch.go (fun _ q => XS.aload X113.here hx rfl (hb hby at_115) rfl rfl q) ?_
    show Rch p e below _ T113 (mkF m 117 #[.val (.int p1), .val (.int p2), .val (.int p3), .val (.int p4), .val (.int p5), .val (.int (3 : Int32)), .val (.ref aa), .val (.long ((((1 : Int64) * (p4.toInt64)) * (p3.toInt64)) * (p2.toInt64))), .second] [(.ref aa)])
    obtain ⟨_, _, ⟨T114, L114, k114, n114⟩, -, X114, ⟨Lc114, hQ114, l114, y114, z114⟩, st114⟩ := Jvm.LawKit.callS X113 hx (y := (⟨"com/example/heverlee/heverlee/engine/Factor", "entries", "([I)J"⟩ : MethodName)) hown (mvT hZ (hw _ (List.mem_of_getElem? (i := 2) rfl))) (mvT hZ (hw _ (List.mem_of_getElem? (i := 3) rfl))) (mvT hZ (hw _ (List.mem_of_getElem? (i := 4) rfl))) (mvT hZ (hw _ (List.mem_of_getElem? (i := 5) rfl))) (by decide) (backOf (W := 0) (rm1_3 l Z a0 hw [] aa kk_aa p2 p3 p4 h113 n0 Z113 V_aa_113) hZ (hw _ (List.mem_of_getElem? (i := 5) rfl)) (hw _ (List.mem_of_getElem? (i := 4) rfl)) (by decide) (by decide)) (g := (mkF m 117 #[.val (.int p1), .val (.int p2), .val (.int p3), .val (.int p4), .val (.int p5), .val (.int (3 : Int32)), .val (.ref aa), .val (.long ((((1 : Int64) * (p4.toInt64)) * (p3.toInt64)) * (p2.toInt64))), .second] [(.ref aa)])) rfl (by rw [hml]; rfl) (argsL := [(.ref aa)]) (rest := []) (lenOf own_pd0 rfl) rfl (by show 2 * 0 + _ ≤ _; exact Nat.le_of_eq rfl) (hb hby at_117) (fun _ _ => ⟨rfl, e113, (by decide : 1 + 0 ≤ _), (by decide : 3 + 0 ≤ _)⟩)
    dsimp only [Pt.U, Pt.locs, Pt.cells, Pt.slots] at X114 l114 y114 z114 st114 hQ114
    subst l114 y114 z114
    obtain ⟨rfl, Nc, ec⟩ := hQ114
    refine Rch.go st114 ?_
    show Rch p e below _ T114 (mkF m 120 #[.val (.int p1), .val (.int p2), .val (.int p3), .val (.int p4), .val (.int p5), .val (.int (3 : Int32)), .val (.ref aa), .val (.long ((((1 : Int64) * (p4.toInt64)) * (p3.toInt64)) * (p2.toInt64))), .second] [(.long ((((1 : Int64) * (p2.toInt64)) * (p3.toInt64)) * (p4.toInt64)))])
    have N114 := Fr.app N113 Nc
    have e114 := ec
    refine Rch.go (fun _ q => XS.lload X114.here hx rfl (hb hby at_120) rfl  q) ?_
    show Rch p e below _ T114 (mkF m 122 #[.val (.int p1), .val (.int p2), .val (.int p3), .val (.int p4), .val (.int p5), .val (.int (3 : Int32)), .val (.ref aa), .val (.long ((((1 : Int64) * (p4.toInt64)) * (p3.toInt64)) * (p2.toInt64))), .second] [(.long ((((1 : Int64) * (p4.toInt64)) * (p3.toInt64)) * (p2.toInt64))), (.long ((((1 : Int64) * (p2.toInt64)) * (p3.toInt64)) * (p4.toInt64)))])
    refine Rch.go (fun _ q => XS.lcmp X114.here hx rfl (hb hby at_122) rfl q) ?_
    show Rch p e below _ T114 (mkF m 123 #[.val (.int p1), .val (.int p2), .val (.int p3), .val (.int p4), .val (.int p5), .val (.int (3 : Int32)), .val (.ref aa), .val (.long ((((1 : Int64) * (p4.toInt64)) * (p3.toInt64)) * (p2.toInt64))), .second] [(.int (lcmpW ((((1 : Int64) * (p2.toInt64)) * (p3.toInt64)) * (p4.toInt64)) ((((1 : Int64) * (p4.toInt64)) * (p3.toInt64)) * (p2.toInt64))))])
    have hq : ((((1 : Int64) * (p2.toInt64)) * (p3.toInt64)) * (p4.toInt64)) = ((((1 : Int64) * (p4.toInt64)) * (p3.toInt64)) * (p2.toInt64)) := by ac_rfl
    refine Rch.go (fun _ q => XS.ifNo X114.here hx rfl (hb hby at_123) rfl ((if0 _ _).trans (teq ((lw_eq _ _).mpr hq)).2) q) ?_
    show Rch p e below _ T114 (mkF m 126 #[.val (.int p1), .val (.int p2), .val (.int p3), .val (.int p4), .val (.int p5), .val (.int (3 : Int32)), .val (.ref aa), .val (.long ((((1 : Int64) * (p4.toInt64)) * (p3.toInt64)) * (p2.toInt64))), .second] [])
    refine Rch.go (fun _ q => XS.iconst X114.here hx rfl (hb hby at_126) q) ?_
    show Rch p e below _ T114 (mkF m 127 #[.val (.int p1), .val (.int p2), .val (.int p3), .val (.int p4), .val (.int p5), .val (.int (3 : Int32)), .val (.ref aa), .val (.long ((((1 : Int64) * (p4.toInt64)) * (p3.toInt64)) * (p2.toInt64))), .second] [(.int (1 : Int32))])
    refine Rch.go (fun _ q => XS.goto X114.here hx rfl (pc0 := 127) (pc' := 131) rfl (hb hby at_127) (by decide) (by decide) q) ?_
    show Rch p e below _ T114 (mkF m 131 #[.val (.int p1), .val (.int p2), .val (.int p3), .val (.int p4), .val (.int p5), .val (.int (3 : Int32)), .val (.ref aa), .val (.long ((((1 : Int64) * (p4.toInt64)) * (p3.toInt64)) * (p2.toInt64))), .second] [(.int (1 : Int32))])
    refine Rch.retZ X114 hx hlk Bd.returns (hb hby at_131) (by decide) (by decide) ?_
    unfold Qrm0
    exact ⟨rfl, N114⟩
  · rw [hr]
    show Rch p e below _ s₁ (mkF m 8 #[.val (.int p1), .val (.int p2), .val (.int p3), .val (.int p4), .val (.int p5), .val (.int (4 : Int32)), .unset, .unset, .unset] [])
    refine Rch.go (fun _ q => XS.iload X0.here hx rfl (hb hby at_8) rfl  q) ?_
    show Rch p e below _ s₁ (mkF m 10 #[.val (.int p1), .val (.int p2), .val (.int p3), .val (.int p4), .val (.int p5), .val (.int (4 : Int32)), .unset, .unset, .unset] [(.int (4 : Int32))])
    obtain ⟨T115, h115, kk_aa, X115, e115, E115, V115, st115⟩ := naw X0 hx hZ (hw _ (List.mem_of_getElem? (i := 1) rfl)) e0 (g := (mkF m 10 #[.val (.int p1), .val (.int p2), .val (.int p3), .val (.int p4), .val (.int p5), .val (.int (4 : Int32)), .unset, .unset, .unset] [(.int (4 : Int32))])) rfl (hb hby at_10) rfl (by decide) 4 (cap := 4) (by decide) (by decide) (by decide) (by decide)
    obtain ⟨aa, g115⟩ : ∃ q, q = Array.size h0 := ⟨_, rfl⟩
    rw [← g115] at V115 st115
    have V_aa_115 : Arv Z h115 aa kk_aa .int (4 : Int32) [(.int 0), (.int 0), (.int 0), (.int 0)] (.int 0) := V115
    have le_aa : n0 ≤ aa := by rw [g115]; exact Z0
    have Z115 : n0 ≤ h115.size := Nat.le_trans Z0 E115.1
    refine Rch.go st115 ?_
    show Rch p e below _ T115 (mkF m 12 #[.val (.int p1), .val (.int p2), .val (.int p3), .val (.int p4), .val (.int p5), .val (.int (4 : Int32)), .unset, .unset, .unset] [(.ref aa)])
    refine Rch.go (fun _ q => XS.astore X115.here hx rfl (hb hby at_12) rfl rfl (l' := #[.val (.int p1), .val (.int p2), .val (.int p3), .val (.int p4), .val (.int p5), .val (.int (4 : Int32)), .val (.ref aa), .unset, .unset]) rfl q) ?_
    show Rch p e below _ T115 (mkF m 14 #[.val (.int p1), .val (.int p2), .val (.int p3), .val (.int p4), .val (.int p5), .val (.int (4 : Int32)), .val (.ref aa), .unset, .unset] [])
    refine Rch.go (fun _ q => XS.iload X115.here hx rfl (hb hby at_14) rfl  q) ?_
    show Rch p e below _ T115 (mkF m 16 #[.val (.int p1), .val (.int p2), .val (.int p3), .val (.int p4), .val (.int p5), .val (.int (4 : Int32)), .val (.ref aa), .unset, .unset] [(.int (4 : Int32))])
    refine Rch.go (fun _ q => XS.iconst X115.here hx rfl (hb hby at_16) q) ?_
    show Rch p e below _ T115 (mkF m 17 #[.val (.int p1), .val (.int p2), .val (.int p3), .val (.int p4), .val (.int p5), .val (.int (4 : Int32)), .val (.ref aa), .unset, .unset] [(.int (1 : Int32)), (.int (4 : Int32))])
    refine Rch.go (fun _ q => XS.icmpNo X115.here hx rfl (hb hby at_17) rfl (flt (by decide)).1 q) ?_
    show Rch p e below _ T115 (mkF m 20 #[.val (.int p1), .val (.int p2), .val (.int p3), .val (.int p4), .val (.int p5), .val (.int (4 : Int32)), .val (.ref aa), .unset, .unset] [])
    refine Rch.go (fun _ q => XS.aload X115.here hx rfl (hb hby at_20) rfl rfl q) ?_
    show Rch p e below _ T115 (mkF m 22 #[.val (.int p1), .val (.int p2), .val (.int p3), .val (.int p4), .val (.int p5), .val (.int (4 : Int32)), .val (.ref aa), .unset, .unset] [(.ref aa)])
    refine Rch.go (fun _ q => XS.iconst X115.here hx rfl (hb hby at_22) q) ?_
    show Rch p e below _ T115 (mkF m 23 #[.val (.int p1), .val (.int p2), .val (.int p3), .val (.int p4), .val (.int p5), .val (.int (4 : Int32)), .val (.ref aa), .unset, .unset] [(.int (0 : Int32)), (.ref aa)])
    refine Rch.go (fun _ q => XS.iloadN X115.here hx rfl (hb hby at_23) rfl  q) ?_
    show Rch p e below _ T115 (mkF m 24 #[.val (.int p1), .val (.int p2), .val (.int p3), .val (.int p4), .val (.int p5), .val (.int (4 : Int32)), .val (.ref aa), .unset, .unset] [(.int p2), (.int (0 : Int32)), (.ref aa)])
    obtain ⟨T116, h116, X116, e116, W116, V116, st116⟩ := sdI X115 hx hZ e115 V_aa_115 (j := (0 : Int32)) (by decide) 0 (by decide) (Nat.le_of_ble_eq_true rfl) (g := (mkF m 24 #[.val (.int p1), .val (.int p2), .val (.int p3), .val (.int p4), .val (.int p5), .val (.int (4 : Int32)), .val (.ref aa), .unset, .unset] [(.int p2), (.int (0 : Int32)), (.ref aa)])) rfl rfl (hb hby at_24)
    have V_aa_116 : Arv Z h116 aa kk_aa .int (4 : Int32) [(.int p2), (.int 0), (.int 0), (.int 0)] (.int 0) := V116
    have N116 := Fr.snoc X116 N0 le_aa
    have Z116 : n0 ≤ h116.size := by rw [W116.size]; exact Z115
    refine Rch.go st116 ?_
    show Rch p e below _ T116 (mkF m 25 #[.val (.int p1), .val (.int p2), .val (.int p3), .val (.int p4), .val (.int p5), .val (.int (4 : Int32)), .val (.ref aa), .unset, .unset] [])
    refine Rch.go (fun _ q => XS.iload X116.here hx rfl (hb hby at_25) rfl  q) ?_
    show Rch p e below _ T116 (mkF m 27 #[.val (.int p1), .val (.int p2), .val (.int p3), .val (.int p4), .val (.int p5), .val (.int (4 : Int32)), .val (.ref aa), .unset, .unset] [(.int (4 : Int32))])
    refine Rch.go (fun _ q => XS.iconst X116.here hx rfl (hb hby at_27) q) ?_
    show Rch p e below _ T116 (mkF m 28 #[.val (.int p1), .val (.int p2), .val (.int p3), .val (.int p4), .val (.int p5), .val (.int (4 : Int32)), .val (.ref aa), .unset, .unset] [(.int (2 : Int32)), (.int (4 : Int32))])
    refine Rch.go (fun _ q => XS.icmpNo X116.here hx rfl (hb hby at_28) rfl (flt (by decide)).1 q) ?_
    show Rch p e below _ T116 (mkF m 31 #[.val (.int p1), .val (.int p2), .val (.int p3), .val (.int p4), .val (.int p5), .val (.int (4 : Int32)), .val (.ref aa), .unset, .unset] [])
    refine Rch.go (fun _ q => XS.aload X116.here hx rfl (hb hby at_31) rfl rfl q) ?_
    show Rch p e below _ T116 (mkF m 33 #[.val (.int p1), .val (.int p2), .val (.int p3), .val (.int p4), .val (.int p5), .val (.int (4 : Int32)), .val (.ref aa), .unset, .unset] [(.ref aa)])
    refine Rch.go (fun _ q => XS.iconst X116.here hx rfl (hb hby at_33) q) ?_
    show Rch p e below _ T116 (mkF m 34 #[.val (.int p1), .val (.int p2), .val (.int p3), .val (.int p4), .val (.int p5), .val (.int (4 : Int32)), .val (.ref aa), .unset, .unset] [(.int (1 : Int32)), (.ref aa)])
    refine Rch.go (fun _ q => XS.iloadN X116.here hx rfl (hb hby at_34) rfl  q) ?_
    show Rch p e below _ T116 (mkF m 35 #[.val (.int p1), .val (.int p2), .val (.int p3), .val (.int p4), .val (.int p5), .val (.int (4 : Int32)), .val (.ref aa), .unset, .unset] [(.int p3), (.int (1 : Int32)), (.ref aa)])
    obtain ⟨T117, h117, X117, e117, W117, V117, st117⟩ := sdI X116 hx hZ e116 V_aa_116 (j := (1 : Int32)) (by decide) 1 (by decide) (Nat.le_of_ble_eq_true rfl) (g := (mkF m 35 #[.val (.int p1), .val (.int p2), .val (.int p3), .val (.int p4), .val (.int p5), .val (.int (4 : Int32)), .val (.ref aa), .unset, .unset] [(.int p3), (.int (1 : Int32)), (.ref aa)])) rfl rfl (hb hby at_35)
    have V_aa_117 : Arv Z h117 aa kk_aa .int (4 : Int32) [(.int p2), (.int p3), (.int 0), (.int 0)] (.int 0) := V117
    have N117 := Fr.snoc X117 N116 le_aa
    have Z117 : n0 ≤ h117.size := by rw [W117.size]; exact Z116
    refine Rch.go st117 ?_
    show Rch p e below _ T117 (mkF m 36 #[.val (.int p1), .val (.int p2), .val (.int p3), .val (.int p4), .val (.int p5), .val (.int (4 : Int32)), .val (.ref aa), .unset, .unset] [])
    refine Rch.go (fun _ q => XS.iload X117.here hx rfl (hb hby at_36) rfl  q) ?_
    show Rch p e below _ T117 (mkF m 38 #[.val (.int p1), .val (.int p2), .val (.int p3), .val (.int p4), .val (.int p5), .val (.int (4 : Int32)), .val (.ref aa), .unset, .unset] [(.int (4 : Int32))])
    refine Rch.go (fun _ q => XS.iconst X117.here hx rfl (hb hby at_38) q) ?_
    show Rch p e below _ T117 (mkF m 39 #[.val (.int p1), .val (.int p2), .val (.int p3), .val (.int p4), .val (.int p5), .val (.int (4 : Int32)), .val (.ref aa), .unset, .unset] [(.int (3 : Int32)), (.int (4 : Int32))])
    refine Rch.go (fun _ q => XS.icmpNo X117.here hx rfl (hb hby at_39) rfl (flt (by decide)).1 q) ?_
    show Rch p e below _ T117 (mkF m 42 #[.val (.int p1), .val (.int p2), .val (.int p3), .val (.int p4), .val (.int p5), .val (.int (4 : Int32)), .val (.ref aa), .unset, .unset] [])
    refine Rch.go (fun _ q => XS.aload X117.here hx rfl (hb hby at_42) rfl rfl q) ?_
    show Rch p e below _ T117 (mkF m 44 #[.val (.int p1), .val (.int p2), .val (.int p3), .val (.int p4), .val (.int p5), .val (.int (4 : Int32)), .val (.ref aa), .unset, .unset] [(.ref aa)])
    refine Rch.go (fun _ q => XS.iconst X117.here hx rfl (hb hby at_44) q) ?_
    show Rch p e below _ T117 (mkF m 45 #[.val (.int p1), .val (.int p2), .val (.int p3), .val (.int p4), .val (.int p5), .val (.int (4 : Int32)), .val (.ref aa), .unset, .unset] [(.int (2 : Int32)), (.ref aa)])
    refine Rch.go (fun _ q => XS.iloadN X117.here hx rfl (hb hby at_45) rfl  q) ?_
    show Rch p e below _ T117 (mkF m 46 #[.val (.int p1), .val (.int p2), .val (.int p3), .val (.int p4), .val (.int p5), .val (.int (4 : Int32)), .val (.ref aa), .unset, .unset] [(.int p4), (.int (2 : Int32)), (.ref aa)])
    obtain ⟨T118, h118, X118, e118, W118, V118, st118⟩ := sdI X117 hx hZ e117 V_aa_117 (j := (2 : Int32)) (by decide) 2 (by decide) (Nat.le_of_ble_eq_true rfl) (g := (mkF m 46 #[.val (.int p1), .val (.int p2), .val (.int p3), .val (.int p4), .val (.int p5), .val (.int (4 : Int32)), .val (.ref aa), .unset, .unset] [(.int p4), (.int (2 : Int32)), (.ref aa)])) rfl rfl (hb hby at_46)
    have V_aa_118 : Arv Z h118 aa kk_aa .int (4 : Int32) [(.int p2), (.int p3), (.int p4), (.int 0)] (.int 0) := V118
    have N118 := Fr.snoc X118 N117 le_aa
    have Z118 : n0 ≤ h118.size := by rw [W118.size]; exact Z117
    refine Rch.go st118 ?_
    show Rch p e below _ T118 (mkF m 47 #[.val (.int p1), .val (.int p2), .val (.int p3), .val (.int p4), .val (.int p5), .val (.int (4 : Int32)), .val (.ref aa), .unset, .unset] [])
    refine Rch.go (fun _ q => XS.iload X118.here hx rfl (hb hby at_47) rfl  q) ?_
    show Rch p e below _ T118 (mkF m 49 #[.val (.int p1), .val (.int p2), .val (.int p3), .val (.int p4), .val (.int p5), .val (.int (4 : Int32)), .val (.ref aa), .unset, .unset] [(.int (4 : Int32))])
    refine Rch.go (fun _ q => XS.iconst X118.here hx rfl (hb hby at_49) q) ?_
    show Rch p e below _ T118 (mkF m 50 #[.val (.int p1), .val (.int p2), .val (.int p3), .val (.int p4), .val (.int p5), .val (.int (4 : Int32)), .val (.ref aa), .unset, .unset] [(.int (4 : Int32)), (.int (4 : Int32))])
    refine Rch.go (fun _ q => XS.icmpNo X118.here hx rfl (hb hby at_50) rfl (flt (by decide)).1 q) ?_
    show Rch p e below _ T118 (mkF m 53 #[.val (.int p1), .val (.int p2), .val (.int p3), .val (.int p4), .val (.int p5), .val (.int (4 : Int32)), .val (.ref aa), .unset, .unset] [])
    refine Rch.go (fun _ q => XS.aload X118.here hx rfl (hb hby at_53) rfl rfl q) ?_
    show Rch p e below _ T118 (mkF m 55 #[.val (.int p1), .val (.int p2), .val (.int p3), .val (.int p4), .val (.int p5), .val (.int (4 : Int32)), .val (.ref aa), .unset, .unset] [(.ref aa)])
    refine Rch.go (fun _ q => XS.iconst X118.here hx rfl (hb hby at_55) q) ?_
    show Rch p e below _ T118 (mkF m 56 #[.val (.int p1), .val (.int p2), .val (.int p3), .val (.int p4), .val (.int p5), .val (.int (4 : Int32)), .val (.ref aa), .unset, .unset] [(.int (3 : Int32)), (.ref aa)])
    refine Rch.go (fun _ q => XS.iload X118.here hx rfl (hb hby at_56) rfl  q) ?_
    show Rch p e below _ T118 (mkF m 58 #[.val (.int p1), .val (.int p2), .val (.int p3), .val (.int p4), .val (.int p5), .val (.int (4 : Int32)), .val (.ref aa), .unset, .unset] [(.int p5), (.int (3 : Int32)), (.ref aa)])
    obtain ⟨T119, h119, X119, e119, W119, V119, st119⟩ := sdI X118 hx hZ e118 V_aa_118 (j := (3 : Int32)) (by decide) 3 (by decide) (Nat.le_of_ble_eq_true rfl) (g := (mkF m 58 #[.val (.int p1), .val (.int p2), .val (.int p3), .val (.int p4), .val (.int p5), .val (.int (4 : Int32)), .val (.ref aa), .unset, .unset] [(.int p5), (.int (3 : Int32)), (.ref aa)])) rfl rfl (hb hby at_58)
    have V_aa_119 : Arv Z h119 aa kk_aa .int (4 : Int32) [(.int p2), (.int p3), (.int p4), (.int p5)] (.int 0) := V119
    have N119 := Fr.snoc X119 N118 le_aa
    have Z119 : n0 ≤ h119.size := by rw [W119.size]; exact Z118
    refine Rch.go st119 ?_
    show Rch p e below _ T119 (mkF m 59 #[.val (.int p1), .val (.int p2), .val (.int p3), .val (.int p4), .val (.int p5), .val (.int (4 : Int32)), .val (.ref aa), .unset, .unset] [])
    refine Rch.go (fun _ q => XS.lconst X119.here hx rfl (hb hby at_59) q) ?_
    show Rch p e below _ T119 (mkF m 60 #[.val (.int p1), .val (.int p2), .val (.int p3), .val (.int p4), .val (.int p5), .val (.int (4 : Int32)), .val (.ref aa), .unset, .unset] [(.long (1 : Int64))])
    refine Rch.go (fun _ q => XS.lstore X119.here hx rfl (hb hby at_60) rfl (l' := #[.val (.int p1), .val (.int p2), .val (.int p3), .val (.int p4), .val (.int p5), .val (.int (4 : Int32)), .val (.ref aa), .val (.long (1 : Int64)), .second]) rfl q) ?_
    show Rch p e below _ T119 (mkF m 62 #[.val (.int p1), .val (.int p2), .val (.int p3), .val (.int p4), .val (.int p5), .val (.int (4 : Int32)), .val (.ref aa), .val (.long (1 : Int64)), .second] [])
    refine Rch.go (fun _ q => XS.iload X119.here hx rfl (hb hby at_62) rfl  q) ?_
    show Rch p e below _ T119 (mkF m 64 #[.val (.int p1), .val (.int p2), .val (.int p3), .val (.int p4), .val (.int p5), .val (.int (4 : Int32)), .val (.ref aa), .val (.long (1 : Int64)), .second] [(.int (4 : Int32))])
    refine Rch.go (fun _ q => XS.iconst X119.here hx rfl (hb hby at_64) q) ?_
    show Rch p e below _ T119 (mkF m 65 #[.val (.int p1), .val (.int p2), .val (.int p3), .val (.int p4), .val (.int p5), .val (.int (4 : Int32)), .val (.ref aa), .val (.long (1 : Int64)), .second] [(.int (4 : Int32)), (.int (4 : Int32))])
    refine Rch.go (fun _ q => XS.icmpNo X119.here hx rfl (hb hby at_65) rfl (flt (by decide)).1 q) ?_
    show Rch p e below _ T119 (mkF m 68 #[.val (.int p1), .val (.int p2), .val (.int p3), .val (.int p4), .val (.int p5), .val (.int (4 : Int32)), .val (.ref aa), .val (.long (1 : Int64)), .second] [])
    refine Rch.go (fun _ q => XS.lload X119.here hx rfl (hb hby at_68) rfl  q) ?_
    show Rch p e below _ T119 (mkF m 70 #[.val (.int p1), .val (.int p2), .val (.int p3), .val (.int p4), .val (.int p5), .val (.int (4 : Int32)), .val (.ref aa), .val (.long (1 : Int64)), .second] [(.long (1 : Int64))])
    refine Rch.go (fun _ q => XS.iload X119.here hx rfl (hb hby at_70) rfl  q) ?_
    show Rch p e below _ T119 (mkF m 72 #[.val (.int p1), .val (.int p2), .val (.int p3), .val (.int p4), .val (.int p5), .val (.int (4 : Int32)), .val (.ref aa), .val (.long (1 : Int64)), .second] [(.int p5), (.long (1 : Int64))])
    refine Rch.go (fun _ q => XS.i2l X119.here hx rfl (hb hby at_72) rfl q) ?_
    show Rch p e below _ T119 (mkF m 73 #[.val (.int p1), .val (.int p2), .val (.int p3), .val (.int p4), .val (.int p5), .val (.int (4 : Int32)), .val (.ref aa), .val (.long (1 : Int64)), .second] [(.long (p5.toInt64)), (.long (1 : Int64))])
    refine Rch.go (fun _ q => XS.lmul X119.here hx rfl (hb hby at_73) rfl q) ?_
    show Rch p e below _ T119 (mkF m 74 #[.val (.int p1), .val (.int p2), .val (.int p3), .val (.int p4), .val (.int p5), .val (.int (4 : Int32)), .val (.ref aa), .val (.long (1 : Int64)), .second] [(.long ((1 : Int64) * (p5.toInt64)))])
    refine Rch.go (fun _ q => XS.lstore X119.here hx rfl (hb hby at_74) rfl (l' := #[.val (.int p1), .val (.int p2), .val (.int p3), .val (.int p4), .val (.int p5), .val (.int (4 : Int32)), .val (.ref aa), .val (.long ((1 : Int64) * (p5.toInt64))), .second]) rfl q) ?_
    show Rch p e below _ T119 (mkF m 76 #[.val (.int p1), .val (.int p2), .val (.int p3), .val (.int p4), .val (.int p5), .val (.int (4 : Int32)), .val (.ref aa), .val (.long ((1 : Int64) * (p5.toInt64))), .second] [])
    refine Rch.go (fun _ q => XS.iload X119.here hx rfl (hb hby at_76) rfl  q) ?_
    show Rch p e below _ T119 (mkF m 78 #[.val (.int p1), .val (.int p2), .val (.int p3), .val (.int p4), .val (.int p5), .val (.int (4 : Int32)), .val (.ref aa), .val (.long ((1 : Int64) * (p5.toInt64))), .second] [(.int (4 : Int32))])
    refine Rch.go (fun _ q => XS.iconst X119.here hx rfl (hb hby at_78) q) ?_
    show Rch p e below _ T119 (mkF m 79 #[.val (.int p1), .val (.int p2), .val (.int p3), .val (.int p4), .val (.int p5), .val (.int (4 : Int32)), .val (.ref aa), .val (.long ((1 : Int64) * (p5.toInt64))), .second] [(.int (3 : Int32)), (.int (4 : Int32))])
    refine Rch.go (fun _ q => XS.icmpNo X119.here hx rfl (hb hby at_79) rfl (flt (by decide)).1 q) ?_
    show Rch p e below _ T119 (mkF m 82 #[.val (.int p1), .val (.int p2), .val (.int p3), .val (.int p4), .val (.int p5), .val (.int (4 : Int32)), .val (.ref aa), .val (.long ((1 : Int64) * (p5.toInt64))), .second] [])
    refine Rch.go (fun _ q => XS.lload X119.here hx rfl (hb hby at_82) rfl  q) ?_
    show Rch p e below _ T119 (mkF m 84 #[.val (.int p1), .val (.int p2), .val (.int p3), .val (.int p4), .val (.int p5), .val (.int (4 : Int32)), .val (.ref aa), .val (.long ((1 : Int64) * (p5.toInt64))), .second] [(.long ((1 : Int64) * (p5.toInt64)))])
    refine Rch.go (fun _ q => XS.iloadN X119.here hx rfl (hb hby at_84) rfl  q) ?_
    show Rch p e below _ T119 (mkF m 85 #[.val (.int p1), .val (.int p2), .val (.int p3), .val (.int p4), .val (.int p5), .val (.int (4 : Int32)), .val (.ref aa), .val (.long ((1 : Int64) * (p5.toInt64))), .second] [(.int p4), (.long ((1 : Int64) * (p5.toInt64)))])
    refine Rch.go (fun _ q => XS.i2l X119.here hx rfl (hb hby at_85) rfl q) ?_
    show Rch p e below _ T119 (mkF m 86 #[.val (.int p1), .val (.int p2), .val (.int p3), .val (.int p4), .val (.int p5), .val (.int (4 : Int32)), .val (.ref aa), .val (.long ((1 : Int64) * (p5.toInt64))), .second] [(.long (p4.toInt64)), (.long ((1 : Int64) * (p5.toInt64)))])
    refine Rch.go (fun _ q => XS.lmul X119.here hx rfl (hb hby at_86) rfl q) ?_
    show Rch p e below _ T119 (mkF m 87 #[.val (.int p1), .val (.int p2), .val (.int p3), .val (.int p4), .val (.int p5), .val (.int (4 : Int32)), .val (.ref aa), .val (.long ((1 : Int64) * (p5.toInt64))), .second] [(.long (((1 : Int64) * (p5.toInt64)) * (p4.toInt64)))])
    refine Rch.go (fun _ q => XS.lstore X119.here hx rfl (hb hby at_87) rfl (l' := #[.val (.int p1), .val (.int p2), .val (.int p3), .val (.int p4), .val (.int p5), .val (.int (4 : Int32)), .val (.ref aa), .val (.long (((1 : Int64) * (p5.toInt64)) * (p4.toInt64))), .second]) rfl q) ?_
    show Rch p e below _ T119 (mkF m 89 #[.val (.int p1), .val (.int p2), .val (.int p3), .val (.int p4), .val (.int p5), .val (.int (4 : Int32)), .val (.ref aa), .val (.long (((1 : Int64) * (p5.toInt64)) * (p4.toInt64))), .second] [])
    refine Rch.go (fun _ q => XS.iload X119.here hx rfl (hb hby at_89) rfl  q) ?_
    show Rch p e below _ T119 (mkF m 91 #[.val (.int p1), .val (.int p2), .val (.int p3), .val (.int p4), .val (.int p5), .val (.int (4 : Int32)), .val (.ref aa), .val (.long (((1 : Int64) * (p5.toInt64)) * (p4.toInt64))), .second] [(.int (4 : Int32))])
    refine Rch.go (fun _ q => XS.iconst X119.here hx rfl (hb hby at_91) q) ?_
    show Rch p e below _ T119 (mkF m 92 #[.val (.int p1), .val (.int p2), .val (.int p3), .val (.int p4), .val (.int p5), .val (.int (4 : Int32)), .val (.ref aa), .val (.long (((1 : Int64) * (p5.toInt64)) * (p4.toInt64))), .second] [(.int (2 : Int32)), (.int (4 : Int32))])
    refine Rch.go (fun _ q => XS.icmpNo X119.here hx rfl (hb hby at_92) rfl (flt (by decide)).1 q) ?_
    show Rch p e below _ T119 (mkF m 95 #[.val (.int p1), .val (.int p2), .val (.int p3), .val (.int p4), .val (.int p5), .val (.int (4 : Int32)), .val (.ref aa), .val (.long (((1 : Int64) * (p5.toInt64)) * (p4.toInt64))), .second] [])
    refine Rch.go (fun _ q => XS.lload X119.here hx rfl (hb hby at_95) rfl  q) ?_
    show Rch p e below _ T119 (mkF m 97 #[.val (.int p1), .val (.int p2), .val (.int p3), .val (.int p4), .val (.int p5), .val (.int (4 : Int32)), .val (.ref aa), .val (.long (((1 : Int64) * (p5.toInt64)) * (p4.toInt64))), .second] [(.long (((1 : Int64) * (p5.toInt64)) * (p4.toInt64)))])
    refine Rch.go (fun _ q => XS.iloadN X119.here hx rfl (hb hby at_97) rfl  q) ?_
    show Rch p e below _ T119 (mkF m 98 #[.val (.int p1), .val (.int p2), .val (.int p3), .val (.int p4), .val (.int p5), .val (.int (4 : Int32)), .val (.ref aa), .val (.long (((1 : Int64) * (p5.toInt64)) * (p4.toInt64))), .second] [(.int p3), (.long (((1 : Int64) * (p5.toInt64)) * (p4.toInt64)))])
    refine Rch.go (fun _ q => XS.i2l X119.here hx rfl (hb hby at_98) rfl q) ?_
    show Rch p e below _ T119 (mkF m 99 #[.val (.int p1), .val (.int p2), .val (.int p3), .val (.int p4), .val (.int p5), .val (.int (4 : Int32)), .val (.ref aa), .val (.long (((1 : Int64) * (p5.toInt64)) * (p4.toInt64))), .second] [(.long (p3.toInt64)), (.long (((1 : Int64) * (p5.toInt64)) * (p4.toInt64)))])
    refine Rch.go (fun _ q => XS.lmul X119.here hx rfl (hb hby at_99) rfl q) ?_
    show Rch p e below _ T119 (mkF m 100 #[.val (.int p1), .val (.int p2), .val (.int p3), .val (.int p4), .val (.int p5), .val (.int (4 : Int32)), .val (.ref aa), .val (.long (((1 : Int64) * (p5.toInt64)) * (p4.toInt64))), .second] [(.long ((((1 : Int64) * (p5.toInt64)) * (p4.toInt64)) * (p3.toInt64)))])
    refine Rch.go (fun _ q => XS.lstore X119.here hx rfl (hb hby at_100) rfl (l' := #[.val (.int p1), .val (.int p2), .val (.int p3), .val (.int p4), .val (.int p5), .val (.int (4 : Int32)), .val (.ref aa), .val (.long ((((1 : Int64) * (p5.toInt64)) * (p4.toInt64)) * (p3.toInt64))), .second]) rfl q) ?_
    show Rch p e below _ T119 (mkF m 102 #[.val (.int p1), .val (.int p2), .val (.int p3), .val (.int p4), .val (.int p5), .val (.int (4 : Int32)), .val (.ref aa), .val (.long ((((1 : Int64) * (p5.toInt64)) * (p4.toInt64)) * (p3.toInt64))), .second] [])
    refine Rch.go (fun _ q => XS.iload X119.here hx rfl (hb hby at_102) rfl  q) ?_
    show Rch p e below _ T119 (mkF m 104 #[.val (.int p1), .val (.int p2), .val (.int p3), .val (.int p4), .val (.int p5), .val (.int (4 : Int32)), .val (.ref aa), .val (.long ((((1 : Int64) * (p5.toInt64)) * (p4.toInt64)) * (p3.toInt64))), .second] [(.int (4 : Int32))])
    refine Rch.go (fun _ q => XS.iconst X119.here hx rfl (hb hby at_104) q) ?_
    show Rch p e below _ T119 (mkF m 105 #[.val (.int p1), .val (.int p2), .val (.int p3), .val (.int p4), .val (.int p5), .val (.int (4 : Int32)), .val (.ref aa), .val (.long ((((1 : Int64) * (p5.toInt64)) * (p4.toInt64)) * (p3.toInt64))), .second] [(.int (1 : Int32)), (.int (4 : Int32))])
    refine Rch.go (fun _ q => XS.icmpNo X119.here hx rfl (hb hby at_105) rfl (flt (by decide)).1 q) ?_
    show Rch p e below _ T119 (mkF m 108 #[.val (.int p1), .val (.int p2), .val (.int p3), .val (.int p4), .val (.int p5), .val (.int (4 : Int32)), .val (.ref aa), .val (.long ((((1 : Int64) * (p5.toInt64)) * (p4.toInt64)) * (p3.toInt64))), .second] [])
    refine Rch.go (fun _ q => XS.lload X119.here hx rfl (hb hby at_108) rfl  q) ?_
    show Rch p e below _ T119 (mkF m 110 #[.val (.int p1), .val (.int p2), .val (.int p3), .val (.int p4), .val (.int p5), .val (.int (4 : Int32)), .val (.ref aa), .val (.long ((((1 : Int64) * (p5.toInt64)) * (p4.toInt64)) * (p3.toInt64))), .second] [(.long ((((1 : Int64) * (p5.toInt64)) * (p4.toInt64)) * (p3.toInt64)))])
    refine Rch.go (fun _ q => XS.iloadN X119.here hx rfl (hb hby at_110) rfl  q) ?_
    show Rch p e below _ T119 (mkF m 111 #[.val (.int p1), .val (.int p2), .val (.int p3), .val (.int p4), .val (.int p5), .val (.int (4 : Int32)), .val (.ref aa), .val (.long ((((1 : Int64) * (p5.toInt64)) * (p4.toInt64)) * (p3.toInt64))), .second] [(.int p2), (.long ((((1 : Int64) * (p5.toInt64)) * (p4.toInt64)) * (p3.toInt64)))])
    refine Rch.go (fun _ q => XS.i2l X119.here hx rfl (hb hby at_111) rfl q) ?_
    show Rch p e below _ T119 (mkF m 112 #[.val (.int p1), .val (.int p2), .val (.int p3), .val (.int p4), .val (.int p5), .val (.int (4 : Int32)), .val (.ref aa), .val (.long ((((1 : Int64) * (p5.toInt64)) * (p4.toInt64)) * (p3.toInt64))), .second] [(.long (p2.toInt64)), (.long ((((1 : Int64) * (p5.toInt64)) * (p4.toInt64)) * (p3.toInt64)))])
    refine Rch.go (fun _ q => XS.lmul X119.here hx rfl (hb hby at_112) rfl q) ?_
    show Rch p e below _ T119 (mkF m 113 #[.val (.int p1), .val (.int p2), .val (.int p3), .val (.int p4), .val (.int p5), .val (.int (4 : Int32)), .val (.ref aa), .val (.long ((((1 : Int64) * (p5.toInt64)) * (p4.toInt64)) * (p3.toInt64))), .second] [(.long (((((1 : Int64) * (p5.toInt64)) * (p4.toInt64)) * (p3.toInt64)) * (p2.toInt64)))])
    refine Rch.go (fun _ q => XS.lstore X119.here hx rfl (hb hby at_113) rfl (l' := #[.val (.int p1), .val (.int p2), .val (.int p3), .val (.int p4), .val (.int p5), .val (.int (4 : Int32)), .val (.ref aa), .val (.long (((((1 : Int64) * (p5.toInt64)) * (p4.toInt64)) * (p3.toInt64)) * (p2.toInt64))), .second]) rfl q) ?_
    show Rch p e below _ T119 (mkF m 115 #[.val (.int p1), .val (.int p2), .val (.int p3), .val (.int p4), .val (.int p5), .val (.int (4 : Int32)), .val (.ref aa), .val (.long (((((1 : Int64) * (p5.toInt64)) * (p4.toInt64)) * (p3.toInt64)) * (p2.toInt64))), .second] [])
    refine Rch.go (fun _ q => XS.aload X119.here hx rfl (hb hby at_115) rfl rfl q) ?_
    show Rch p e below _ T119 (mkF m 117 #[.val (.int p1), .val (.int p2), .val (.int p3), .val (.int p4), .val (.int p5), .val (.int (4 : Int32)), .val (.ref aa), .val (.long (((((1 : Int64) * (p5.toInt64)) * (p4.toInt64)) * (p3.toInt64)) * (p2.toInt64))), .second] [(.ref aa)])
    obtain ⟨_, _, ⟨T120, L120, k120, n120⟩, -, X120, ⟨Lc120, hQ120, l120, y120, z120⟩, st120⟩ := Jvm.LawKit.callS X119 hx (y := (⟨"com/example/heverlee/heverlee/engine/Factor", "entries", "([I)J"⟩ : MethodName)) hown (mvT hZ (hw _ (List.mem_of_getElem? (i := 2) rfl))) (mvT hZ (hw _ (List.mem_of_getElem? (i := 3) rfl))) (mvT hZ (hw _ (List.mem_of_getElem? (i := 4) rfl))) (mvT hZ (hw _ (List.mem_of_getElem? (i := 5) rfl))) (by decide) (backOf (W := 0) (rm1_4 l Z a0 hw [] aa kk_aa p2 p3 p4 p5 h119 n0 Z119 V_aa_119) hZ (hw _ (List.mem_of_getElem? (i := 5) rfl)) (hw _ (List.mem_of_getElem? (i := 4) rfl)) (by decide) (by decide)) (g := (mkF m 117 #[.val (.int p1), .val (.int p2), .val (.int p3), .val (.int p4), .val (.int p5), .val (.int (4 : Int32)), .val (.ref aa), .val (.long (((((1 : Int64) * (p5.toInt64)) * (p4.toInt64)) * (p3.toInt64)) * (p2.toInt64))), .second] [(.ref aa)])) rfl (by rw [hml]; rfl) (argsL := [(.ref aa)]) (rest := []) (lenOf own_pd0 rfl) rfl (by show 2 * 0 + _ ≤ _; exact Nat.le_of_eq rfl) (hb hby at_117) (fun _ _ => ⟨rfl, e119, (by decide : 1 + 0 ≤ _), (by decide : 4 + 0 ≤ _)⟩)
    dsimp only [Pt.U, Pt.locs, Pt.cells, Pt.slots] at X120 l120 y120 z120 st120 hQ120
    subst l120 y120 z120
    obtain ⟨rfl, Nc, ec⟩ := hQ120
    refine Rch.go st120 ?_
    show Rch p e below _ T120 (mkF m 120 #[.val (.int p1), .val (.int p2), .val (.int p3), .val (.int p4), .val (.int p5), .val (.int (4 : Int32)), .val (.ref aa), .val (.long (((((1 : Int64) * (p5.toInt64)) * (p4.toInt64)) * (p3.toInt64)) * (p2.toInt64))), .second] [(.long (((((1 : Int64) * (p2.toInt64)) * (p3.toInt64)) * (p4.toInt64)) * (p5.toInt64)))])
    have N120 := Fr.app N119 Nc
    have e120 := ec
    refine Rch.go (fun _ q => XS.lload X120.here hx rfl (hb hby at_120) rfl  q) ?_
    show Rch p e below _ T120 (mkF m 122 #[.val (.int p1), .val (.int p2), .val (.int p3), .val (.int p4), .val (.int p5), .val (.int (4 : Int32)), .val (.ref aa), .val (.long (((((1 : Int64) * (p5.toInt64)) * (p4.toInt64)) * (p3.toInt64)) * (p2.toInt64))), .second] [(.long (((((1 : Int64) * (p5.toInt64)) * (p4.toInt64)) * (p3.toInt64)) * (p2.toInt64))), (.long (((((1 : Int64) * (p2.toInt64)) * (p3.toInt64)) * (p4.toInt64)) * (p5.toInt64)))])
    refine Rch.go (fun _ q => XS.lcmp X120.here hx rfl (hb hby at_122) rfl q) ?_
    show Rch p e below _ T120 (mkF m 123 #[.val (.int p1), .val (.int p2), .val (.int p3), .val (.int p4), .val (.int p5), .val (.int (4 : Int32)), .val (.ref aa), .val (.long (((((1 : Int64) * (p5.toInt64)) * (p4.toInt64)) * (p3.toInt64)) * (p2.toInt64))), .second] [(.int (lcmpW (((((1 : Int64) * (p2.toInt64)) * (p3.toInt64)) * (p4.toInt64)) * (p5.toInt64)) (((((1 : Int64) * (p5.toInt64)) * (p4.toInt64)) * (p3.toInt64)) * (p2.toInt64))))])
    have hq : (((((1 : Int64) * (p2.toInt64)) * (p3.toInt64)) * (p4.toInt64)) * (p5.toInt64)) = (((((1 : Int64) * (p5.toInt64)) * (p4.toInt64)) * (p3.toInt64)) * (p2.toInt64)) := by ac_rfl
    refine Rch.go (fun _ q => XS.ifNo X120.here hx rfl (hb hby at_123) rfl ((if0 _ _).trans (teq ((lw_eq _ _).mpr hq)).2) q) ?_
    show Rch p e below _ T120 (mkF m 126 #[.val (.int p1), .val (.int p2), .val (.int p3), .val (.int p4), .val (.int p5), .val (.int (4 : Int32)), .val (.ref aa), .val (.long (((((1 : Int64) * (p5.toInt64)) * (p4.toInt64)) * (p3.toInt64)) * (p2.toInt64))), .second] [])
    refine Rch.go (fun _ q => XS.iconst X120.here hx rfl (hb hby at_126) q) ?_
    show Rch p e below _ T120 (mkF m 127 #[.val (.int p1), .val (.int p2), .val (.int p3), .val (.int p4), .val (.int p5), .val (.int (4 : Int32)), .val (.ref aa), .val (.long (((((1 : Int64) * (p5.toInt64)) * (p4.toInt64)) * (p3.toInt64)) * (p2.toInt64))), .second] [(.int (1 : Int32))])
    refine Rch.go (fun _ q => XS.goto X120.here hx rfl (pc0 := 127) (pc' := 131) rfl (hb hby at_127) (by decide) (by decide) q) ?_
    show Rch p e below _ T120 (mkF m 131 #[.val (.int p1), .val (.int p2), .val (.int p3), .val (.int p4), .val (.int p5), .val (.int (4 : Int32)), .val (.ref aa), .val (.long (((((1 : Int64) * (p5.toInt64)) * (p4.toInt64)) * (p3.toInt64)) * (p2.toInt64))), .second] [(.int (1 : Int32))])
    refine Rch.retZ X120 hx hlk Bd.returns (hb hby at_131) (by decide) (by decide) ?_
    unfold Qrm0
    exact ⟨rfl, N120⟩
set_option maxRecDepth 65536 in
set_option maxHeartbeats 40000000 in
theorem comes_1 {Post : Tables → Env → Array Value → State → Outcome → State → Prop} (hpost : ∀ tb e args s v u, (limb_1_1.after args s (.returned v) u = true ∧ limb_1_2.after args s (.returned v) u = true ∧ True) → FrameEnd s (.returned v) u (Jvm.fieldLocs frame_1_writes args s ++ Jvm.arrayLocs frame_1_arrays args s ++ Jvm.staticLocs frame_1_statics s) 16 128 → Post tb e args s (.returned v) u) :
    ArmFor flags0 classFile x code maxLocals ret World_1 tables_1 room_1 Calls_1 rest_1 Pre_1 Post := by
  intro l hfl _ _ p e ha hc hk s m args below hf hA hF happ hP
  obtain ⟨hcalls, hrest, hpre⟩ := hP
  obtain ⟨-, -, -, hnamed, -, -, -, hat⟩ := (Spec.applies_iff hf).mp happ
  obtain ⟨hg, hn⟩ := and_e (Cond.before_iff.mp (show (Jvm.Cond.and given_1 narrow_1).before args s = true from hpre))
  obtain ⟨hcnt, hr0⟩ := and_e hg
  obtain ⟨w0, w1, w2, w3, w4, rfl⟩ : ∃ w0 w1 w2 w3 w4 : Value, args = #[w0, w1, w2, w3, w4] := by
    have hs : args.size = 5 := by simpa [Cond.value, given_1] using hcnt
    obtain ⟨L⟩ := args
    match L, hs with
    | [w0, w1, w2, w3, w4], _ => exact ⟨w0, w1, w2, w3, w4, rfl⟩
  have hw := fun d (hd : d ∈ tables_1) => atoms_spec (ws := Jvm.Cond.code x code maxLocals ret :: tables_1) hat d (List.mem_cons_of_mem _ hd)
  obtain ⟨ha0, hr1⟩ := and_e hr0
  obtain ⟨i0, e0⟩ := is_v ha0
  obtain rfl : w0 = (.int i0) := Option.some.inj e0
  obtain ⟨ha1, hr2⟩ := and_e hr1
  obtain ⟨i1, e1⟩ := is_v ha1
  obtain rfl : w1 = (.int i1) := Option.some.inj e1
  obtain ⟨ha2, hr3⟩ := and_e hr2
  obtain ⟨i2, e2⟩ := is_v ha2
  obtain rfl : w2 = (.int i2) := Option.some.inj e2
  obtain ⟨ha3, hr4⟩ := and_e hr3
  obtain ⟨i3, e3⟩ := is_v ha3
  obtain rfl : w3 = (.int i3) := Option.some.inj e3
  obtain ⟨i4, e4⟩ := is_v hr4
  obtain rfl : w4 = (.int i4) := Option.some.inj e4
  obtain ⟨n, o, h1, h2, h3, _, L, rfl, ⟨rfl, N⟩, hq⟩ := rm0 l s _ hw tables_1 i0 i1 i2 i3 i4 s.heap s.heap.size (Nat.le_refl _) p e ha hc hk s m _ below hf ((Spec.applies_iff_loose hf).mp happ).1 ⟨rfl, State.Warmed39.refl s, rfl⟩ trivial
  refine ⟨n, _, h1, h2, h3, hpost _ _ _ _ _ _ ⟨Cond.after_iff.mpr rfl, Cond.after_iff.mpr (eq_i res_at (Term.int_eval (1)) rfl), trivial⟩ ⟨hq.1, hq.2.1, (hq.2.2.sift fun y hy => Or.inr (N y hy)).mono (by decide) (by decide)⟩⟩
theorem main_1_1 : Claimed_1_1 := comes_1 fun _ _ _ _ _ _ h hF => ⟨h.1, hF⟩
theorem main_1_2 : Claimed_1_2 := comes_1 fun _ _ _ _ _ _ h hF => ⟨h.2.1, hF⟩
end Jvm.Pilot.@@N@@
namespace Jvm.Pilot.@@N@@
open Jvm Jvm.ClassFile Sem Op Lib Jvm.Free Jvm.Stand Jvm.Pilot.@@N@@.Jvm.D
/-! MADE BY PROGRAM (witnessworld.py) out of the Statement's table words and the real class files: 9 classes; the members and pool entries that the words name. The judged class is class 1, her method 1. -/
namespace start1
open Jvm.ClassFile
def u (s : String) : CpInfo := .utf8 (stringToUtf16 s)
/-- a pool by its gaps: so many unusable entries, then the entry; so many at the end -/
def gap : Nat → List CpInfo → List CpInfo
  | 0, r => r
  | n + 1, r => .unusable :: gap n r
def poolList (es : List (Nat × CpInfo)) (last : Nat) : List CpInfo := es.foldr (fun e r => gap e.1 (e.2 :: r)) (gap last [])
def pool (es : List (Nat × CpInfo)) (last : Nat) : Array CpInfo := ⟨poolList es last⟩
def fileOf (pool : Array CpInfo) (this : Nat) (attrs : Array Attribute := #[]) (ms : Array MethodInfo := #[]) (fl : Nat := 33) (sup : Nat := 0) (ifs : Array Nat := #[]) (fds : Array FieldInfo := #[]) : ClassFile where
  minorVersion := 0
  majorVersion := 65
  constantPool := pool
  accessFlags := fl
  thisClass := this
  superClass := sup
  interfaces := ifs
  fields := fds
  methods := ms
  attributes := attrs
def plain (name : String) (sup : Option ClassId) : Class where
  name := name
  kind := .ordinary
  loader := none
  accessFlags := 33
  super := sup
  interfaces := #[]
  cf := none
  fields := #[]
  methods := #[]
  instanceTypes := #[]
  staticTypes := #[]
  resolved := #[]
  callSites := []
  init := .initialized
  statics := none
  mirror := none

def pool0 : Array CpInfo := pool [(5, u "<init>"), (0, u "()V"), (1, .class_ 10), (1, u "java/lang/Object")] 113

def k0m0 : Method := { name := "<init>", desc := "()V", sig := { parameters := [], returnType := none }, accessFlags := 1, code := none }
/-- java/lang/Object -/
def k0 : Class := { plain "java/lang/Object" none with
  accessFlags := 33
  interfaces := #[]
  cf := some (fileOf pool0 8 #[] #[{ accessFlags := 1, nameIndex := 5, descriptorIndex := 6, attributes := #[] }] 33 0 #[] #[])
  fields := #[]
  methods := #[k0m0]
  instanceTypes := #[]
  staticTypes := #[]
  resolved := Array.replicate 124 none
  statics := none }

def pool1 : Array CpInfo := pool [(2, .class_ 4), (1, u "java/lang/Object"), (0, u "<init>"), (0, u "()V"), (0, .integer 2147483647), (0, .methodref 9 10), (0, .class_ 11), (0, .nameAndType 12 13), (0, u "com/example/heverlee/heverlee/engine/Factor"), (0, u "entries"), (0, u "([I)J"), (0, .class_ 15), (0, u "com/example/heverlee/heverlee/engine/FactorEntriesPinLaw"), (2, u "law"), (0, u "(IIIII)Z")] 5

def k1m0 : Method := { name := "<init>", desc := "()V", sig := { parameters := [], returnType := none }, accessFlags := 1, code := none }
def k1c1 : Code := { maxStack := 4, maxLocals := 9, code := code, exceptionTable := #[], attributes := #[] }
def k1m1 : Method := { name := "law", desc := "(IIIII)Z", sig := { parameters := [.int, .int, .int, .int, .int], returnType := some .boolean }, accessFlags := 9, code := some k1c1 }
/-- com/example/heverlee/heverlee/engine/FactorEntriesPinLaw -/
def k1 : Class := { plain "com/example/heverlee/heverlee/engine/FactorEntriesPinLaw" (some 0) with
  accessFlags := 49
  interfaces := #[]
  cf := some (fileOf pool1 14 #[] #[{ accessFlags := 1, nameIndex := 5, descriptorIndex := 6, attributes := #[] }, { accessFlags := 9, nameIndex := 18, descriptorIndex := 19, attributes := #[] }] 49 2 #[] #[])
  fields := #[]
  methods := #[k1m0, k1m1]
  instanceTypes := #[]
  staticTypes := #[]
  resolved := Array.replicate 25 none
  statics := none }

def pool2 : Array CpInfo := pool [(2, .class_ 4), (1, u "java/lang/Object"), (3, .class_ 10), (1, u "com/example/heverlee/heverlee/engine/Factor"), (0, u "variables"), (0, u "[I"), (2, u "cardinalities"), (2, u "logs"), (0, u "[D"), (57, u "entries"), (0, u "([I)J")] 174

def k2c0 : Code := { maxStack := 4, maxLocals := 7, code := prog_33_method_18_code, exceptionTable := #[], attributes := #[] }
def k2m0 : Method := { name := "entries", desc := "([I)J", sig := { parameters := [(.array .int)], returnType := some .long }, accessFlags := 8, code := some k2c0 }
/-- com/example/heverlee/heverlee/engine/Factor -/
def k2 : Class := { plain "com/example/heverlee/heverlee/engine/Factor" (some 0) with
  accessFlags := 48
  interfaces := #[]
  cf := some (fileOf pool2 8 #[] #[{ accessFlags := 8, nameIndex := 77, descriptorIndex := 78, attributes := #[] }] 48 2 #[] #[{ accessFlags := 18, nameIndex := 11, descriptorIndex := 12, attributes := #[] }, { accessFlags := 18, nameIndex := 15, descriptorIndex := 12, attributes := #[] }, { accessFlags := 18, nameIndex := 18, descriptorIndex := 19, attributes := #[] }])
  fields := #[{ name := "variables", type := (.array .int), accessFlags := 18, slot := 0, constantValue := 0 }, { name := "cardinalities", type := (.array .int), accessFlags := 18, slot := 1, constantValue := 0 }, { name := "logs", type := (.array .double), accessFlags := 18, slot := 2, constantValue := 0 }]
  methods := #[k2m0]
  instanceTypes := #[(.array .int), (.array .int), (.array .double)]
  staticTypes := #[]
  resolved := Array.replicate 253 none
  statics := none }

def pool3 : Array CpInfo := pool [(1, u "java/lang/Cloneable"), (0, .class_ 1), (0, u "java/lang/Object"), (0, .class_ 3)] 3

/-- java/lang/Cloneable -/
def k3 : Class := { plain "java/lang/Cloneable" (some 0) with
  accessFlags := 1537
  interfaces := #[]
  cf := some (fileOf pool3 2 #[] #[] 1537 4 #[] #[])
  fields := #[]
  methods := #[]
  instanceTypes := #[]
  staticTypes := #[]
  resolved := Array.replicate 8 none
  statics := none }

def pool4 : Array CpInfo := pool [(1, u "java/io/Serializable"), (0, .class_ 1), (0, u "java/lang/Object"), (0, .class_ 3)] 3

/-- java/io/Serializable -/
def k4 : Class := { plain "java/io/Serializable" (some 0) with
  accessFlags := 1537
  interfaces := #[]
  cf := some (fileOf pool4 2 #[] #[] 1537 4 #[] #[])
  fields := #[]
  methods := #[]
  instanceTypes := #[]
  staticTypes := #[]
  resolved := Array.replicate 8 none
  statics := none }

/-- the primitive byte -/
def k5 : Class := { plain "byte" none with kind := .primitive 'B', accessFlags := 0x411 }
/-- [B -/
def k6 : Class := { plain "[B" (some 0) with kind := .array 5 .byte, interfaces := #[3, 4], accessFlags := 1041 }

/-- the primitive int -/
def k7 : Class := { plain "int" none with kind := .primitive 'I', accessFlags := 0x411 }
/-- [I -/
def k8 : Class := { plain "[I" (some 0) with kind := .array 7 .int, interfaces := #[3, 4], accessFlags := 1041 }

def heap : Heap := #[]
def classes : Array Class := #[k0, k1, k2, k3, k4, k5, k6, k7, k8]
def interned : List (Array UInt16 × Addr) := []
def slotsUsed : Nat := 0
def theMethod : MethodId := ⟨1, 1⟩
def args0 : Array Value := #[.int 3, .int 5, .int 7, .int 9, .int 4]
def aboutOver (below : List Frame) : State where
  vm := { classes := classes, interned := interned.toArray }
  heap := heap
  slotsUsed := slotsUsed
  threads := #[{ frames := .invoking theMethod args0 :: below }]
def below0 : List Frame := [.native { method := ⟨0, 0⟩, args := #[] }]
def about1 : State := aboutOver below0
def p0 : Program := .bare "" "" ""
def e0 : Env := launch0.env 0 0 0
theorem w_frames : about1.frames = Frame.invoking theMethod args0 :: below0 := rfl
set_option maxRecDepth 65536 in
theorem w_args : argsFit about1.vm theMethod args0 = true := by decide +kernel
set_option maxRecDepth 65536 in
theorem w_heap : heapFits about1 = true := by decide +kernel
set_option maxRecDepth 65536 in
theorem w_runnable : about1.curStatus? = some .runnable := by decide +kernel
set_option maxRecDepth 65536 in
theorem w_alone : about1.alone = true := by decide +kernel
set_option maxRecDepth 65536 in
theorem w_named : about1.methodNamed? x = some theMethod := by decide +kernel
set_option maxRecDepth 65536 in
theorem w_hears : about1.hears theMethod below0 = true := by decide +kernel
set_option maxRecDepth 65536 in
theorem w_ripe : about1.ripe theMethod args0 below0 = true := by decide +kernel
theorem w_running : about1.status = .running := rfl
set_option maxRecDepth 65536 in
theorem w_room : about1.hasRoom e0.platform room_1 = true :=
  launch0.hasRoom_least _ room_1 (by decide +kernel) (by decide +kernel) (by decide +kernel) (by decide +kernel) (by decide +kernel) (by decide +kernel)
theorem allAtoms_all (ts : List Jvm.Cond) (a : Array Jvm.Value) (st : Jvm.State) : (allAtoms ts).before a st = ts.all (fun c => c.before a st) := by
  induction ts with
  | nil => rfl
  | cons c t ih =>
    show (Jvm.Cond.and c (allAtoms t)).before a st = _
    rw [Jvm.Cond.before_and, ih, List.all_cons]
def words1 : List Jvm.Cond := Jvm.Cond.code x code maxLocals ret :: tables_1
/-- a 'code' word, met by the world's own term for the bytes: nothing is compared byte by byte -/
theorem code_word {y : MethodName} {bytes : ByteArray} {mx : Nat} {rt : Option FieldType} {a : Array Value} {s : State} {m : MethodId} {meth : Method} {c : Code} (h1 : s.methodNamed? y = some m) (h2 : s.vm.method? m = some meth) (h3 : meth.code = some c) (h4 : c.code = bytes)
    (h5 : (c.maxLocals == mx && c.exceptionTable.isEmpty && decide (c.maxStack ≤ mostOperands) && decide (meth.sig.returnType = rt) && !meth.locks && decide (parseMethodDescriptor y.desc = some meth.sig)) = true) : (Jvm.Cond.code y bytes mx rt).before a s = true := by
  simp only [Bool.and_eq_true, beq_iff_eq, Bool.not_eq_true', decide_eq_true_eq] at h5
  obtain ⟨⟨⟨⟨⟨g1, g2⟩, g3⟩, g4⟩, g5⟩, g6⟩ := h5
  simp [Cond.before, Cond.holds, Cond.value, h1, h2, h3, h4, g1, g2, g3, g4, g5, g6]
def isCode : Jvm.Cond → Bool
  | .code _ _ _ _ => true
  | _ => false
theorem all_split {L : List Jvm.Cond} {P : Jvm.Cond → Bool} (h1 : L.all (fun c => isCode c || P c) = true) (h2 : ∀ c ∈ L.filter isCode, P c = true) : L.all P = true := by
  refine List.all_eq_true.mpr fun c hc => ?_
  have h := List.all_eq_true.mp h1 c hc
  rcases Bool.eq_false_or_eq_true (isCode c) with hi | hi
  · exact h2 c (List.mem_filter.mpr ⟨hc, hi⟩)
  · simpa [hi] using h
set_option maxRecDepth 65536 in
theorem w_c0 : (Jvm.Cond.code x code maxLocals ret).before args0 about1 = true := code_word (m := ⟨1, 1⟩) (meth := k1m1) (c := k1c1) (by decide +kernel) rfl rfl rfl (by decide +kernel)
set_option maxRecDepth 65536 in
theorem w_c1 : (Jvm.Cond.code ({ cls := "com/example/heverlee/heverlee/engine/Factor", name := "entries", desc := "([I)J" } : Jvm.MethodName) prog_33_method_18_code (7 : Nat) (Option.some Jvm.ClassFile.FieldType.long)).before args0 about1 = true := code_word (m := ⟨2, 0⟩) (meth := k2m0) (c := k2c0) (by decide +kernel) rfl rfl rfl (by decide +kernel)
def codes1 : List Jvm.Cond := [Jvm.Cond.code x code maxLocals ret, Jvm.Cond.code ({ cls := "com/example/heverlee/heverlee/engine/Factor", name := "entries", desc := "([I)J" } : Jvm.MethodName) prog_33_method_18_code (7 : Nat) (Option.some Jvm.ClassFile.FieldType.long)]
set_option maxRecDepth 65536 in
theorem codes_eq : words1.filter isCode = codes1 := rfl
theorem w_codes : ∀ c ∈ words1.filter isCode, c.before args0 about1 = true := by
  rw [codes_eq]
  intro c hc
  simp only [codes1, List.mem_cons, List.not_mem_nil, or_false] at hc
  rcases hc with rfl | rfl
  · exact w_c0
  · exact w_c1
set_option maxRecDepth 65536 in
theorem w_t1 : words1.all (fun c => isCode c || c.before args0 about1) = true := by decide +kernel
theorem w_tables : (allAtoms (Jvm.Cond.code x code maxLocals ret :: tables_1)).before args0 about1 = true := by
  rw [allAtoms_all]
  show words1.all (fun c => c.before args0 about1) = true
  refine all_split ?_ w_codes
  rw [w_t1]
set_option maxRecDepth 65536 in
theorem w_case : (Jvm.Cond.and given_1 narrow_1).before args0 about1 = true := by decide +kernel
theorem w_applies : (headSpec (Jvm.Cond.code x code maxLocals ret :: tables_1) room_1).applies x e0.platform about1 = true :=
  (Spec.applies_iff w_frames).mpr ⟨w_running, w_runnable, w_alone, w_named, w_hears, w_ripe, w_room, w_tables⟩
theorem atStart : AtStart classFile x code maxLocals ret World_1 tables_1 room_1 Calls_1 rest_1 Pre_1 launch0 p0 e0 about1 theMethod args0 below0 :=
  ⟨lists_1, trivial, launch0.admits_env _ _ _, launch0.least_env, fairChoices_fair.cas, fairChoices_fair.clock, w_frames, w_args, w_heap, w_applies, trivial, trivial, w_case⟩
end start1
theorem witness_1 : WitnessClaimed_1 := ⟨start1.p0, start1.e0, start1.about1, start1.theMethod, start1.args0, start1.below0, start1.atStart⟩
end Jvm.Pilot.@@N@@
