import JvmDerived
import JvmDerived.Pilot.@@N@@Statement
import JvmDerived.Pilot.@@N@@Code
set_option linter.unusedVariables false
set_option linter.unusedSimpArgs false
namespace Jvm.RoadKit
open Sem ClassFile Op Lib Jvm.Stand Jvm.Free Jvm.LawKit
section Own
variable {p : Program} {l : Launch} {e : Env} {R : Room} {s : State} {m : MethodId} {args : Array Value} {below : List Frame} {meth : Method} {c : Code} {T : State} {locs : List Loc} {cells slots : Nat} {Z : State} {a0 : Array Value} {h h' : Heap}
theorem retI (X : Stand p l e R s m args below meth c T locs cells slots) (hx : p.tables.exec = Jvm.exec) {pc : Nat} {Ls : Array Slot} {z : Int32} {rest : List Value} (hret : meth.sig.returnType = some .int) (hd : decode c.code pc = .ok (.ireturn, 1)) {fs : List Frame}
    (hl : ∀ (f : JFrame) (acts : List Action), f.method = m → f.locked = none → f.entered = [] → (doReturn e (T.setTop f) acts (some (.int z))).1 = T.setFrames fs) : Steps p.tables e below (T.setTop (mkF m pc Ls (.int z :: rest))) (T.setFrames fs) := by
  have hm' : T.vm.method? m = some meth := X.method'
  have hn : narrow .int (.int z) = .int z := rfl
  show Steps p.tables e below (T.setTop { method := m, pc := pc, locals := Ls, stack := _ :: rest, locked := none }) _
  jvm_step X.here [X.here.top, hx, hd, hm', hret, hn]
  first | (intro acts; rw [hl _ acts rfl rfl rfl]) | rw [hl _ _ rfl rfl rfl]
  exact Steps.refl _
/-- from this frame the walk comes to an end that says G -/
def Rch (p : Program) (e : Env) (below : List Frame) (G : State → Outcome → Prop) (T : State) (g : JFrame) : Prop :=
  ∃ s₂ o, Steps p.tables e below (T.setTop g) s₂ ∧ s₂.status = .running ∧ Ended s₂ below o ∧ G s₂ o
variable {G : State → Outcome → Prop} {T' : State} {g g' : JFrame}
theorem Rch.go (st : ∀ t, Steps p.tables e below (T'.setTop g') t → Steps p.tables e below (T.setTop g) t) (k : Rch p e below G T' g') : Rch p e below G T g := by
  obtain ⟨s2, o, a, b⟩ := k
  exact ⟨s2, o, st _ a, b⟩
theorem Rch.jump (st : Steps p.tables e below (T.setTop g) (T'.setTop g')) (k : Rch p e below G T' g') : Rch p e below G T g := Rch.go (fun _ q => st.trans q) k
theorem Rch.entry {n : Nat} (q : entryFrame m args n = g) (k : Rch p e below G T g) : ∃ s₂ o, Steps p.tables e below (T.setTop (entryFrame m args n)) s₂ ∧ s₂.status = .running ∧ Ended s₂ below o ∧ G s₂ o := by rw [q]; exact k
/-- what a contract says of its end -/
def EndQ (Q : Option Value → Heap → List Loc → Prop) (U : State) (kc ks : Nat) (U' : State) (o : Outcome) : Prop := ∃ v L, o = .returned v ∧ Q v U'.heap L ∧ FrameEnd U o U' L kc ks
variable {Q : Option Value → Heap → List Loc → Prop} {kc ks : Nat} {pc : Nat} {Ls : Array Slot} {rest : List Value}
theorem Rch.retI (X : Stand p l e R s m args below meth c T locs cells slots) (hx : p.tables.exec = Jvm.exec) (hlk : meth.locks = false) {z : Int32} (hret : meth.sig.returnType = some .int) (hd : decode c.code pc = .ok (.ireturn, 1)) (hc : cells ≤ kc) (hs : slots ≤ ks) (hQ : Q (some (.int z)) T.heap locs) : Rch p e below (EndQ Q s kc ks) T (mkF m pc Ls (.int z :: rest)) := by
  obtain ⟨fs, hr, hrun, hended, hW, hsame⟩ := X.leave (v := some (.int z)) (fun h => by rw [hret] at h; cases h)
  exact ⟨_, _, Jvm.RoadKit.retI X hx hret hd hr, hrun, hended, _, _, rfl, hQ, ⟨_, rfl⟩, hW, hsame.mono hc hs⟩
theorem Rch.retZ (X : Stand p l e R s m args below meth c T locs cells slots) (hx : p.tables.exec = Jvm.exec) (hlk : meth.locks = false) {z : Int32} (hret : meth.sig.returnType = some .boolean) (hd : decode c.code pc = .ok (.ireturn, 1)) (hc : cells ≤ kc) (hs : slots ≤ ks) (hQ : Q (some (.int (nar .boolean z))) T.heap locs) : Rch p e below (EndQ Q s kc ks) T (mkF m pc Ls (.int z :: rest)) := by
  obtain ⟨fs, hr, hrun, hended, hW, hsame⟩ := X.leave (v := some (.int (nar .boolean z))) (fun h => by rw [hret] at h; cases h)
  exact ⟨_, _, retN X hx hret (Or.inl rfl) hd hr, hrun, hended, _, _, rfl, hQ, ⟨_, rfl⟩, hW, hsame.mono hc hs⟩
theorem Rch.retJ (X : Stand p l e R s m args below meth c T locs cells slots) (hx : p.tables.exec = Jvm.exec) (hlk : meth.locks = false) {z : Int64} (hret : meth.sig.returnType = some .long) (hd : decode c.code pc = .ok (.lreturn, 1)) (hc : cells ≤ kc) (hs : slots ≤ ks) (hQ : Q (some (.long z)) T.heap locs) : Rch p e below (EndQ Q s kc ks) T (mkF m pc Ls (.long z :: rest)) := by
  obtain ⟨fs, hr, hrun, hended, hW, hsame⟩ := X.leave (v := some (.long z)) (fun h => by rw [hret] at h; cases h)
  exact ⟨_, _, retOut X hx hret rfl (Or.inr (Or.inl ⟨rfl, rfl, _, rfl⟩)) hd hr, hrun, hended, _, _, rfl, hQ, ⟨_, rfl⟩, hW, hsame.mono hc hs⟩
theorem Rch.retA (X : Stand p l e R s m args below meth c T locs cells slots) (hx : p.tables.exec = Jvm.exec) (hlk : meth.locks = false) {a : Addr} {t : FieldType} (ht : t.isReference = true) (hn : narrow t (.ref a) = .ref a) (hret : meth.sig.returnType = some t) (hd : decode c.code pc = .ok (.areturn, 1)) (hc : cells ≤ kc) (hs : slots ≤ ks) (hQ : Q (some (.ref a)) T.heap locs) : Rch p e below (EndQ Q s kc ks) T (mkF m pc Ls (.ref a :: rest)) := by
  obtain ⟨fs, hr, hrun, hended, hW, hsame⟩ := X.leave (v := some (.ref a)) (fun h => by rw [hret] at h; cases h)
  exact ⟨_, _, retOut X hx hret hn (Or.inr (Or.inr (Or.inr (Or.inr ⟨rfl, ht, rfl⟩)))) hd hr, hrun, hended, _, _, rfl, hQ, ⟨_, rfl⟩, hW, hsame.mono hc hs⟩
theorem Rch.retV (X : Stand p l e R s m args below meth c T locs cells slots) (hx : p.tables.exec = Jvm.exec) (hlk : meth.locks = false) (hret : meth.sig.returnType = none) (hd : decode c.code pc = .ok (.return_, 1)) (hc : cells ≤ kc) (hs : slots ≤ ks) (hQ : Q none T.heap locs) : Rch p e below (EndQ Q s kc ks) T (mkF m pc Ls []) := by
  obtain ⟨fs, hr, hrun, hended, hW, hsame⟩ := X.leave (v := none) (fun _ => rfl)
  exact ⟨_, _, X.returnOut hx hret hd hr, hrun, hended, _, _, rfl, hQ, ⟨_, rfl⟩, hW, hsame.mono hc hs⟩
variable {a : Addr} {k : ClassId} {z : Int32} {vs : List Value} {dv : Value} {ty : FieldType}
theorem ldB (X : Stand p l e R s m args below meth c T locs cells slots) (hx : p.tables.exec = Jvm.exec) (hZ : Z.Warmed39 s.vm) (eT : T.heap = h) (V : Arv Z h a k .byte z vs dv) {j : Int32} {v : Value} (hj : ¬ j < 0 ∧ j < z) (hv : vs.getD j.toNatClampNeg dv = v) (hg : g.method = m) (hs : g.stack = .int j :: .ref a :: rest) (hd : decode c.code g.pc = .ok (.baload, 1)) (target : State)
    (hr : Steps p.tables e below (T.setTop { g with pc := g.pc + 1, stack := v :: rest }) target) : Steps p.tables e below (T.setTop g) target := by
  obtain ⟨c', A, -, S, M, H, -⟩ := V
  exact X.baloadBytes hx (by rw [eT]; exact A.1) (State.isArrayOf_alike hZ.alike A.2.1) A.2.2 (inb_of S hj) (H.at (inb_of S hj) hv) hg hs hd target hr
theorem ldI (X : Stand p l e R s m args below meth c T locs cells slots) (hx : p.tables.exec = Jvm.exec) (hZ : Z.Warmed39 s.vm) (eT : T.heap = h) (V : Arv Z h a k .int z vs dv) {j : Int32} {v : Value} (hj : ¬ j < 0 ∧ j < z) (hv : vs.getD j.toNatClampNeg dv = v) (hg : g.method = m) (hs : g.stack = .int j :: .ref a :: rest) (hd : decode c.code g.pc = .ok (.iaload, 1)) (target : State)
    (hr : Steps p.tables e below (T.setTop { g with pc := g.pc + 1, stack := v :: rest }) target) : Steps p.tables e below (T.setTop g) target := by
  obtain ⟨c', A, -, S, M, H, -⟩ := V
  exact X.iaload hx (by rw [eT]; exact A.1) (State.isArrayOf_alike hZ.alike A.2.1) A.2.2 (inb_of S hj) (H.at (inb_of S hj) hv) hg hs hd target hr
theorem ldJ (X : Stand p l e R s m args below meth c T locs cells slots) (hx : p.tables.exec = Jvm.exec) (hZ : Z.Warmed39 s.vm) (eT : T.heap = h) (V : Arv Z h a k .long z vs dv) {j : Int32} {v : Value} (hj : ¬ j < 0 ∧ j < z) (hv : vs.getD j.toNatClampNeg dv = v) (hg : g.method = m) (hs : g.stack = .int j :: .ref a :: rest) (hd : decode c.code g.pc = .ok (.laload, 1)) (target : State)
    (hr : Steps p.tables e below (T.setTop { g with pc := g.pc + 1, stack := v :: rest }) target) : Steps p.tables e below (T.setTop g) target := by
  obtain ⟨c', A, -, S, M, H, -⟩ := V
  exact X.laload hx (by rw [eT]; exact A.1) (State.isArrayOf_alike hZ.alike A.2.1) A.2.2 (inb_of S hj) (H.at (inb_of S hj) hv) hg hs hd target hr
theorem lenA (X : Stand p l e R s m args below meth c T locs cells slots) (hx : p.tables.exec = Jvm.exec) (hZ : Z.Warmed39 s.vm) (eT : T.heap = h) (V : Arv Z h a k ty z vs dv) (hg : g.method = m) (hs : g.stack = .ref a :: rest) (hd : decode c.code g.pc = .ok (.arraylength, 1)) (target : State)
    (hr : Steps p.tables e below (T.setTop { g with pc := g.pc + 1, stack := .int z :: rest }) target) : Steps p.tables e below (T.setTop g) target := by
  obtain ⟨c', A, -, S, M, H, -⟩ := V
  exact X.arraylength hx (by rw [eT]; exact A.1) (State.isArrayOf_alike hZ.alike A.2.1) hg hs hd target (by rw [len_of S M]; exact hr)
theorem sdB (X : Stand p l e R s m args below meth c T locs cells slots) (hx : p.tables.exec = Jvm.exec) (hZ : Z.Warmed39 s.vm) (eT : T.heap = h) (V : Arv Z h a k .byte z vs dv) {j x : Int32} (hj : ¬ j < 0 ∧ j < z) (i : Nat) (hi : j.toNatClampNeg = i) (hl : i < vs.length) (hg : g.method = m) (hs : g.stack = .int x :: .int j :: .ref a :: rest) (hd : decode c.code g.pc = .ok (.bastore, 1)) :
    ∃ T' h', Stand p l e R s m args below meth c T' (locs ++ [⟨a, j.toNatClampNeg⟩]) cells slots ∧ T'.heap = h' ∧ Wr h h' a j.toNatClampNeg (.int (nar .byte x)) ∧ Arv Z h' a k .byte z (vs.set i (.int (nar .byte x))) dv ∧ ∀ target, Steps p.tables e below (T'.setTop { g with pc := g.pc + 1, stack := rest }) target → Steps p.tables e below (T.setTop g) target := by
  obtain ⟨c', A, q1, S, M, H, F⟩ := V
  obtain ⟨T', h', X', e', W, st⟩ := stB X hx hZ eT A (inb_of S hj) hg hs hd
  exact ⟨T', h', X', e', W, Arv.set A q1 S M H F (fits_nar_byte x) W i hi hl, st⟩
theorem sdI (X : Stand p l e R s m args below meth c T locs cells slots) (hx : p.tables.exec = Jvm.exec) (hZ : Z.Warmed39 s.vm) (eT : T.heap = h) (V : Arv Z h a k .int z vs dv) {j x : Int32} (hj : ¬ j < 0 ∧ j < z) (i : Nat) (hi : j.toNatClampNeg = i) (hl : i < vs.length) (hg : g.method = m) (hs : g.stack = .int x :: .int j :: .ref a :: rest) (hd : decode c.code g.pc = .ok (.iastore, 1)) :
    ∃ T' h', Stand p l e R s m args below meth c T' (locs ++ [⟨a, j.toNatClampNeg⟩]) cells slots ∧ T'.heap = h' ∧ Wr h h' a j.toNatClampNeg (.int x) ∧ Arv Z h' a k .int z (vs.set i (.int x)) dv ∧ ∀ target, Steps p.tables e below (T'.setTop { g with pc := g.pc + 1, stack := rest }) target → Steps p.tables e below (T.setTop g) target := by
  obtain ⟨c', A, q1, S, M, H, F⟩ := V
  obtain ⟨T', h', X', e', W, st⟩ := stI X hx hZ eT A (inb_of S hj) hg hs hd
  exact ⟨T', h', X', e', W, Arv.set A q1 S M H F rfl W i hi hl, st⟩
theorem sdJ (X : Stand p l e R s m args below meth c T locs cells slots) (hx : p.tables.exec = Jvm.exec) (hZ : Z.Warmed39 s.vm) (eT : T.heap = h) (V : Arv Z h a k .long z vs dv) {j : Int32} {x : Int64} (hj : ¬ j < 0 ∧ j < z) (i : Nat) (hi : j.toNatClampNeg = i) (hl : i < vs.length) (hg : g.method = m) (hs : g.stack = .long x :: .int j :: .ref a :: rest) (hd : decode c.code g.pc = .ok (.lastore, 1)) :
    ∃ T' h', Stand p l e R s m args below meth c T' (locs ++ [⟨a, j.toNatClampNeg⟩]) cells slots ∧ T'.heap = h' ∧ Wr h h' a j.toNatClampNeg (.long x) ∧ Arv Z h' a k .long z (vs.set i (.long x)) dv ∧ ∀ target, Steps p.tables e below (T'.setTop { g with pc := g.pc + 1, stack := rest }) target → Steps p.tables e below (T.setTop g) target := by
  obtain ⟨c', A, q1, S, M, H, F⟩ := V
  obtain ⟨T', h', X', e', W, st⟩ := stJ X hx hZ eT A (inb_of S hj) hg hs hd
  exact ⟨T', h', X', e', W, Arv.set A q1 S M H F rfl W i hi hl, st⟩
theorem naw (X : Stand p l e R s m args below meth c T locs cells slots) (hx : p.tables.exec = Jvm.exec) (hZ : Z.Warmed39 s.vm) {aty : ArrayType} (w : (Cond.arrayClass (newarray.typeOf aty)).before a0 Z = true) (eT : T.heap = h) (hg : g.method = m) (hd : decode c.code g.pc = .ok (.newarray aty, 2)) {n : Int32} (hs : g.stack = .int n :: rest)
    (hn : ¬ n < 0) (i : Nat) {cap : Nat} (hcap : n.toNatClampNeg ≤ cap) (hb : cap * 8 ≤ 536870912) (hc : cells + 1 ≤ R.cells) (hl : slots + cap ≤ R.slots) :
    ∃ T' h' cA, Stand p l e R s m args below meth c T' locs (cells + 1) (slots + cap) ∧ T'.heap = h' ∧ Ext h h' ∧ Arv Z h' h.size cA (newarray.typeOf aty) n (List.replicate i (defaultValue (newarray.typeOf aty))) (defaultValue (newarray.typeOf aty)) ∧
      ∀ target, Steps p.tables e below (T'.setTop { g with pc := g.pc + 2, stack := .ref h.size :: rest }) target → Steps p.tables e below (T.setTop g) target := by
  obtain ⟨T', h', cA, X', e', E, A, st⟩ := newP X hx hZ w eT hg hd hs hn hcap hb hc hl
  exact ⟨T', h', cA, X', e', E, (Arv.new A hn).pad (fun q => (pad_rep [] _ i q)), st⟩
end Own
end Jvm.RoadKit
namespace Jvm.Pilot.@@N@@
open Jvm Jvm.ClassFile Sem Op Lib Jvm.Free Jvm.Stand Jvm.LawKit Jvm.RoadKit Bundle Jvm.Pilot.@@N@@.Jvm.D
def own_str (c : Int32) : Int32 := if c = 2 then 1 else if c = 3 then 1 else if c = 4 then 1 else 0
theorem own_key (c : Int32) : own_str c = if c < (2 : Int32) then 0 else if (4 : Int32) < c then 0 else 1 := by
  have k2 : (2 : Int32).toInt = 2 := rfl
  have k3 : (3 : Int32).toInt = 3 := rfl
  have k4 : (4 : Int32).toInt = 4 := rfl
  unfold own_str
  simp only [Int32.lt_iff_toInt_lt, ← Int32.toInt_inj, k2, k3, k4]
  repeat' split
  all_goals first | rfl | (exfalso; omega)
theorem own_pn0 : plainName "com/example/wirecall/wirecall/Frame" = true := by first | (simp [plainName, overriddenIn]; done) | decide +kernel
theorem own_pd0 : parseMethodDescriptor "(I)Z" = some ⟨[.int], some .boolean⟩ := by decide +kernel
theorem d1_0 : decode prog_35_method_3_code 0 = .ok (.iload_n 0, 1) := by decide +kernel
theorem d1_1 : decode prog_35_method_3_code 1 = .ok (.iconst 2, 1) := by decide +kernel
theorem d1_2 : decode prog_35_method_3_code 2 = .ok (.if_icmp .eq 13, 3) := by decide +kernel
theorem d1_5 : decode prog_35_method_3_code 5 = .ok (.iload_n 0, 1) := by decide +kernel
theorem d1_6 : decode prog_35_method_3_code 6 = .ok (.iconst 3, 1) := by decide +kernel
theorem d1_7 : decode prog_35_method_3_code 7 = .ok (.if_icmp .eq 8, 3) := by decide +kernel
theorem d1_10 : decode prog_35_method_3_code 10 = .ok (.iload_n 0, 1) := by decide +kernel
theorem d1_11 : decode prog_35_method_3_code 11 = .ok (.iconst 4, 1) := by decide +kernel
theorem d1_12 : decode prog_35_method_3_code 12 = .ok (.if_icmp .ne 7, 3) := by decide +kernel
theorem d1_15 : decode prog_35_method_3_code 15 = .ok (.iconst 1, 1) := by decide +kernel
theorem d1_16 : decode prog_35_method_3_code 16 = .ok (.goto 4, 3) := by decide +kernel
theorem d1_19 : decode prog_35_method_3_code 19 = .ok (.iconst 0, 1) := by decide +kernel
theorem d1_20 : decode prog_35_method_3_code 20 = .ok (.ireturn, 1) := by decide +kernel
theorem own_ef1 (m : MethodId) (x0 : Int32) : entryFrame m #[(.int x0)] 1 = mkF m 0 #[.val (.int x0)] [] := by first | (simp [entryFrame, mkF, argsToLocals, Value.category, maxLocals]; done) | rfl
def Qrm1 (Z : State) (p1 : Int32)  (h0 : Heap) (n0 : Nat) : Option Value → Heap → List Loc → Prop := fun v h L => v = some (.int (own_str p1)) ∧ Fr n0 L ∧ h = h0
set_option maxRecDepth 65536 in
set_option maxHeartbeats 40000000 in
theorem rm1 (l : Launch) (Z : State) (a0 : Array Value) (hw : ∀ d ∈ tables_1, d.before a0 Z = true) (ws : List Jvm.Cond) (p1 : Int32)  (h0 : Heap) (n0 : Nat) (Z0 : n0 ≤ h0.size)  :
    MetFree l (⟨"com/example/wirecall/wirecall/Frame", "isStream", "(I)Z"⟩ : MethodName) (head1 (Jvm.Cond.code (⟨"com/example/wirecall/wirecall/Frame", "isStream", "(I)Z"⟩ : MethodName) prog_35_method_3_code 1 (some .boolean) :: ws) ({ frames := 0, cells := 0, slots := 0, locals := 0 } : Room)) (fun a U => a = #[(.int p1)] ∧ Z.Warmed39 U.vm ∧ U.heap = h0) (fun _ _ _ _ _ => True) (fun _ U o U' => ∃ v L, o = .returned v ∧ (Qrm1 Z p1  h0 n0) v U'.heap L ∧ FrameEnd U o U' L ({ frames := 0, cells := 0, slots := 0, locals := 0 } : Room).cells ({ frames := 0, cells := 0, slots := 0, locals := 0 } : Room).slots) := by
  refine MetFree.of_bodySF (plainFor_of_name own_pn0) hisR ?_
  intro p e s m args below meth c s₁ Bd hml0 hP hK
  obtain ⟨rfl, hZ, hh⟩ := hP
  have hx := Bd.exec
  have hby := Bd.bytes
  have hlk := Bd.notSynchronized
  have hml : c.maxLocals = 1 := hml0
  have hown : s.vm.findClass "com/example/wirecall/wirecall/Frame" = some m.cls := findClass_of_methodNamed Bd.named
  have hnm := (name_of_methodNamed Bd.named Bd.method).1
  have X0 : Stand p l e ({ frames := 0, cells := 0, slots := 0, locals := 0 } : Room) s m #[(.int p1)] below meth c s₁ [] 0 0 := Stand.of_body Bd
  have e0 : s₁.heap = h0 := by rw [← hh, Bd.state]; rfl
  have N0 := Fr.nil n0
  refine Rch.entry (G := (EndQ (Qrm1 Z p1  h0 n0) s ({ frames := 0, cells := 0, slots := 0, locals := 0 } : Room).cells ({ frames := 0, cells := 0, slots := 0, locals := 0 } : Room).slots)) (own_ef1 m p1) ?_
  have hbool : ∀ x : Int32, nar .boolean x = x &&& 1 := fun _ => rfl
  show Rch p e below _ s₁ (mkF m 0 #[.val (.int p1)] [])
  refine Rch.go (fun _ q => XS.iloadN X0.here hx rfl (hb hby d1_0) rfl  q) ?_
  show Rch p e below _ s₁ (mkF m 1 #[.val (.int p1)] [(.int p1)])
  refine Rch.go (fun _ q => XS.iconst X0.here hx rfl (hb hby d1_1) q) ?_
  show Rch p e below _ s₁ (mkF m 2 #[.val (.int p1)] [(.int (2 : Int32)), (.int p1)])
  by_cases hc2 : p1 = (2 : Int32)
  · skip
    refine Rch.go (fun _ q => XS.icmpYes X0.here hx rfl (pc0 := 2) (pc' := 15) rfl (hb hby d1_2) rfl (teq hc2).1 (by decide) (by decide) q) ?_
    show Rch p e below _ s₁ (mkF m 15 #[.val (.int p1)] [])
    refine Rch.go (fun _ q => XS.iconst X0.here hx rfl (hb hby d1_15) q) ?_
    show Rch p e below _ s₁ (mkF m 16 #[.val (.int p1)] [(.int (1 : Int32))])
    refine Rch.go (fun _ q => XS.goto X0.here hx rfl (pc0 := 16) (pc' := 20) rfl (hb hby d1_16) (by decide) (by decide) q) ?_
    show Rch p e below _ s₁ (mkF m 20 #[.val (.int p1)] [(.int (1 : Int32))])
    refine Rch.retZ X0 hx hlk Bd.returns (hb hby d1_20) (by decide) (by decide) ?_
    unfold Qrm1
    exact ⟨by simp only [own_str, hc2, if_true, if_false]; first | done | rfl, N0, e0⟩
  · skip
    refine Rch.go (fun _ q => XS.icmpNo X0.here hx rfl (hb hby d1_2) rfl (feq hc2).1 q) ?_
    show Rch p e below _ s₁ (mkF m 5 #[.val (.int p1)] [])
    refine Rch.go (fun _ q => XS.iloadN X0.here hx rfl (hb hby d1_5) rfl  q) ?_
    show Rch p e below _ s₁ (mkF m 6 #[.val (.int p1)] [(.int p1)])
    refine Rch.go (fun _ q => XS.iconst X0.here hx rfl (hb hby d1_6) q) ?_
    show Rch p e below _ s₁ (mkF m 7 #[.val (.int p1)] [(.int (3 : Int32)), (.int p1)])
    by_cases hc7 : p1 = (3 : Int32)
    · skip
      refine Rch.go (fun _ q => XS.icmpYes X0.here hx rfl (pc0 := 7) (pc' := 15) rfl (hb hby d1_7) rfl (teq hc7).1 (by decide) (by decide) q) ?_
      show Rch p e below _ s₁ (mkF m 15 #[.val (.int p1)] [])
      refine Rch.go (fun _ q => XS.iconst X0.here hx rfl (hb hby d1_15) q) ?_
      show Rch p e below _ s₁ (mkF m 16 #[.val (.int p1)] [(.int (1 : Int32))])
      refine Rch.go (fun _ q => XS.goto X0.here hx rfl (pc0 := 16) (pc' := 20) rfl (hb hby d1_16) (by decide) (by decide) q) ?_
      show Rch p e below _ s₁ (mkF m 20 #[.val (.int p1)] [(.int (1 : Int32))])
      refine Rch.retZ X0 hx hlk Bd.returns (hb hby d1_20) (by decide) (by decide) ?_
      unfold Qrm1
      exact ⟨by simp only [own_str, hc2, hc7, if_true, if_false]; first | done | rfl, N0, e0⟩
    · skip
      refine Rch.go (fun _ q => XS.icmpNo X0.here hx rfl (hb hby d1_7) rfl (feq hc7).1 q) ?_
      show Rch p e below _ s₁ (mkF m 10 #[.val (.int p1)] [])
      refine Rch.go (fun _ q => XS.iloadN X0.here hx rfl (hb hby d1_10) rfl  q) ?_
      show Rch p e below _ s₁ (mkF m 11 #[.val (.int p1)] [(.int p1)])
      refine Rch.go (fun _ q => XS.iconst X0.here hx rfl (hb hby d1_11) q) ?_
      show Rch p e below _ s₁ (mkF m 12 #[.val (.int p1)] [(.int (4 : Int32)), (.int p1)])
      by_cases hc12 : p1 = (4 : Int32)
      · skip
        refine Rch.go (fun _ q => XS.icmpNo X0.here hx rfl (hb hby d1_12) rfl (teq hc12).2 q) ?_
        show Rch p e below _ s₁ (mkF m 15 #[.val (.int p1)] [])
        refine Rch.go (fun _ q => XS.iconst X0.here hx rfl (hb hby d1_15) q) ?_
        show Rch p e below _ s₁ (mkF m 16 #[.val (.int p1)] [(.int (1 : Int32))])
        refine Rch.go (fun _ q => XS.goto X0.here hx rfl (pc0 := 16) (pc' := 20) rfl (hb hby d1_16) (by decide) (by decide) q) ?_
        show Rch p e below _ s₁ (mkF m 20 #[.val (.int p1)] [(.int (1 : Int32))])
        refine Rch.retZ X0 hx hlk Bd.returns (hb hby d1_20) (by decide) (by decide) ?_
        unfold Qrm1
        exact ⟨by simp only [own_str, hc2, hc7, hc12, if_true, if_false]; first | done | rfl, N0, e0⟩
      · skip
        refine Rch.go (fun _ q => XS.icmpYes X0.here hx rfl (pc0 := 12) (pc' := 19) rfl (hb hby d1_12) rfl (feq hc12).2 (by decide) (by decide) q) ?_
        show Rch p e below _ s₁ (mkF m 19 #[.val (.int p1)] [])
        refine Rch.go (fun _ q => XS.iconst X0.here hx rfl (hb hby d1_19) q) ?_
        show Rch p e below _ s₁ (mkF m 20 #[.val (.int p1)] [(.int (0 : Int32))])
        refine Rch.retZ X0 hx hlk Bd.returns (hb hby d1_20) (by decide) (by decide) ?_
        unfold Qrm1
        exact ⟨by simp only [own_str, hc2, hc7, hc12, if_true, if_false]; first | done | rfl, N0, e0⟩
theorem own_pn1 : plainName "com/example/wirecall/wirecall/FrameIsStreamPinLaw" = true := by first | (simp [plainName, overriddenIn]; done) | decide +kernel
theorem own_pd1 : parseMethodDescriptor "(II)Z" = some ⟨[.int, .int], some .boolean⟩ := by decide +kernel
theorem own_ef2 (m : MethodId) (x0 : Int32) (x1 : Int32) : entryFrame m #[(.int x0), (.int x1)] maxLocals = mkF m 0 #[.val (.int x0), .val (.int x1), .unset, .unset] [] := by first | (simp [entryFrame, mkF, argsToLocals, Value.category, maxLocals]; done) | rfl
def Qrm0 (Z : State) (p1 : Int32) (p2 : Int32)  (h0 : Heap) (n0 : Nat) : Option Value → Heap → List Loc → Prop := fun v h L => v = some (.int 1) ∧ Fr n0 L
set_option maxRecDepth 65536 in
set_option maxHeartbeats 40000000 in
theorem rm0 (l : Launch) (Z : State) (a0 : Array Value) (hw : ∀ d ∈ tables_1, d.before a0 Z = true) (ws : List Jvm.Cond) (p1 : Int32) (p2 : Int32)  (h0 : Heap) (n0 : Nat) (Z0 : n0 ≤ h0.size)  :
    MetFree l x (head1 (Jvm.Cond.code x code maxLocals ret :: ws) room_1) (fun a U => a = #[(.int p1), (.int p2)] ∧ Z.Warmed39 U.vm ∧ U.heap = h0) (fun _ _ _ _ _ => True) (fun _ U o U' => ∃ v L, o = .returned v ∧ (Qrm0 Z p1 p2  h0 n0) v U'.heap L ∧ FrameEnd U o U' L room_1.cells room_1.slots) := by
  refine MetFree.of_bodySF (plainFor_of_name own_pn1) hisR ?_
  intro p e s m args below meth c s₁ Bd hml0 hP hK
  obtain ⟨rfl, hZ, hh⟩ := hP
  have hx := Bd.exec
  have hby := Bd.bytes
  have hlk := Bd.notSynchronized
  have hml : c.maxLocals = 4 := hml0
  have hown : s.vm.findClass "com/example/wirecall/wirecall/FrameIsStreamPinLaw" = some m.cls := findClass_of_methodNamed Bd.named
  have hnm := (name_of_methodNamed Bd.named Bd.method).1
  have X0 : Stand p l e room_1 s m #[(.int p1), (.int p2)] below meth c s₁ [] 0 0 := Stand.of_body Bd
  have e0 : s₁.heap = h0 := by rw [← hh, Bd.state]; rfl
  have N0 := Fr.nil n0
  refine Rch.entry (G := (EndQ (Qrm0 Z p1 p2  h0 n0) s room_1.cells room_1.slots)) (own_ef2 m p1 p2) ?_
  have hbool : ∀ x : Int32, nar .boolean x = x &&& 1 := fun _ => rfl
  show Rch p e below _ s₁ (mkF m 0 #[.val (.int p1), .val (.int p2), .unset, .unset] [])
  have tail : ∀ (kd : Int32), Rch p e below (EndQ (Qrm0 Z p1 p2  h0 n0) s room_1.cells room_1.slots) s₁ (mkF m 19 #[.val (.int p1), .val (.int p2), .val (.int kd), .unset] []) := by
    intro kd
    show Rch p e below _ s₁ (mkF m 19 #[.val (.int p1), .val (.int p2), .val (.int kd), .unset] [])
    refine Rch.go (fun _ q => XS.iloadN X0.here hx rfl (hb hby at_19) rfl  q) ?_
    show Rch p e below _ s₁ (mkF m 20 #[.val (.int p1), .val (.int p2), .val (.int kd), .unset] [(.int kd)])
    refine Rch.go (fun _ q => XS.iconst X0.here hx rfl (hb hby at_20) q) ?_
    show Rch p e below _ s₁ (mkF m 21 #[.val (.int p1), .val (.int p2), .val (.int kd), .unset] [(.int (2 : Int32)), (.int kd)])
    by_cases hc21 : kd < (2 : Int32)
    · skip
      refine Rch.go (fun _ q => XS.icmpYes X0.here hx rfl (pc0 := 21) (pc' := 33) rfl (hb hby at_21) rfl (tlt hc21).1 (by decide) (by decide) q) ?_
      show Rch p e below _ s₁ (mkF m 33 #[.val (.int p1), .val (.int p2), .val (.int kd), .unset] [])
      refine Rch.go (fun _ q => XS.iconst X0.here hx rfl (hb hby at_33) q) ?_
      show Rch p e below _ s₁ (mkF m 34 #[.val (.int p1), .val (.int p2), .val (.int kd), .unset] [(.int (0 : Int32))])
      refine Rch.go (fun _ q => XS.istoreN X0.here hx rfl (hb hby at_34) rfl (l' := #[.val (.int p1), .val (.int p2), .val (.int kd), .val (.int (0 : Int32))]) rfl q) ?_
      show Rch p e below _ s₁ (mkF m 35 #[.val (.int p1), .val (.int p2), .val (.int kd), .val (.int (0 : Int32))] [])
      refine Rch.go (fun _ q => XS.iloadN X0.here hx rfl (hb hby at_35) rfl  q) ?_
      show Rch p e below _ s₁ (mkF m 36 #[.val (.int p1), .val (.int p2), .val (.int kd), .val (.int (0 : Int32))] [(.int kd)])
      obtain ⟨_, _, ⟨T1, L1, k1, n1⟩, -, X1, ⟨Lc1, hQ1, l1, y1, z1⟩, st1⟩ := Jvm.LawKit.callS X0 hx (y := (⟨"com/example/wirecall/wirecall/Frame", "isStream", "(I)Z"⟩ : MethodName)) hown (mvT hZ (hw _ (List.mem_of_getElem? (i := 0) rfl))) (mvT hZ (hw _ (List.mem_of_getElem? (i := 1) rfl))) (mvT hZ (hw _ (List.mem_of_getElem? (i := 2) rfl))) (mvT hZ (hw _ (List.mem_of_getElem? (i := 3) rfl))) (by decide) (backOf (W := 0) (rm1 l Z a0 hw [] kd h0 n0 Z0) hZ (hw _ (List.mem_of_getElem? (i := 3) rfl)) (hw _ (List.mem_of_getElem? (i := 2) rfl)) (by decide) (by decide)) (g := (mkF m 36 #[.val (.int p1), .val (.int p2), .val (.int kd), .val (.int (0 : Int32))] [(.int kd)])) rfl (by rw [hml]; rfl) (argsL := [(.int kd)]) (rest := []) (lenOf own_pd0 rfl) rfl (by show 2 * 0 + _ ≤ _; exact Nat.le_of_eq rfl) (hb hby at_36) (fun _ _ => ⟨rfl, e0, (by decide : 0 + 0 ≤ _), (by decide : 0 + 0 ≤ _)⟩)
      dsimp only [Pt.U, Pt.locs, Pt.cells, Pt.slots] at X1 l1 y1 z1 st1 hQ1
      subst l1 y1 z1
      obtain ⟨rfl, Nc, ec⟩ := hQ1
      refine Rch.go st1 ?_
      show Rch p e below _ T1 (mkF m 39 #[.val (.int p1), .val (.int p2), .val (.int kd), .val (.int (0 : Int32))] [(.int (own_str kd))])
      have Nd := Fr.app N0 Nc
      refine Rch.go (fun _ q => XS.iloadN X1.here hx rfl (hb hby at_39) rfl  q) ?_
      show Rch p e below _ T1 (mkF m 40 #[.val (.int p1), .val (.int p2), .val (.int kd), .val (.int (0 : Int32))] [(.int (0 : Int32)), (.int (own_str kd))])
      have hq : own_str kd = (0 : Int32) := by rw [own_key kd]; simp only [hc21, if_true, if_false]
      refine Rch.go (fun _ q => XS.icmpNo X1.here hx rfl (hb hby at_40) rfl (teq hq).2 q) ?_
      show Rch p e below _ T1 (mkF m 43 #[.val (.int p1), .val (.int p2), .val (.int kd), .val (.int (0 : Int32))] [])
      refine Rch.go (fun _ q => XS.iconst X1.here hx rfl (hb hby at_43) q) ?_
      show Rch p e below _ T1 (mkF m 44 #[.val (.int p1), .val (.int p2), .val (.int kd), .val (.int (0 : Int32))] [(.int (1 : Int32))])
      refine Rch.go (fun _ q => XS.goto X1.here hx rfl (pc0 := 44) (pc' := 48) rfl (hb hby at_44) (by decide) (by decide) q) ?_
      show Rch p e below _ T1 (mkF m 48 #[.val (.int p1), .val (.int p2), .val (.int kd), .val (.int (0 : Int32))] [(.int (1 : Int32))])
      refine Rch.retZ X1 hx hlk Bd.returns (hb hby at_48) (by decide) (by decide) ?_
      unfold Qrm0
      exact ⟨rfl, Nd⟩
    · skip
      refine Rch.go (fun _ q => XS.icmpNo X0.here hx rfl (hb hby at_21) rfl (flt hc21).1 q) ?_
      show Rch p e below _ s₁ (mkF m 24 #[.val (.int p1), .val (.int p2), .val (.int kd), .unset] [])
      refine Rch.go (fun _ q => XS.iloadN X0.here hx rfl (hb hby at_24) rfl  q) ?_
      show Rch p e below _ s₁ (mkF m 25 #[.val (.int p1), .val (.int p2), .val (.int kd), .unset] [(.int kd)])
      refine Rch.go (fun _ q => XS.iconst X0.here hx rfl (hb hby at_25) q) ?_
      show Rch p e below _ s₁ (mkF m 26 #[.val (.int p1), .val (.int p2), .val (.int kd), .unset] [(.int (4 : Int32)), (.int kd)])
      by_cases hc26 : (4 : Int32) < kd
      · skip
        refine Rch.go (fun _ q => XS.icmpYes X0.here hx rfl (pc0 := 26) (pc' := 33) rfl (hb hby at_26) rfl (tlt hc26).2.2.1 (by decide) (by decide) q) ?_
        show Rch p e below _ s₁ (mkF m 33 #[.val (.int p1), .val (.int p2), .val (.int kd), .unset] [])
        refine Rch.go (fun _ q => XS.iconst X0.here hx rfl (hb hby at_33) q) ?_
        show Rch p e below _ s₁ (mkF m 34 #[.val (.int p1), .val (.int p2), .val (.int kd), .unset] [(.int (0 : Int32))])
        refine Rch.go (fun _ q => XS.istoreN X0.here hx rfl (hb hby at_34) rfl (l' := #[.val (.int p1), .val (.int p2), .val (.int kd), .val (.int (0 : Int32))]) rfl q) ?_
        show Rch p e below _ s₁ (mkF m 35 #[.val (.int p1), .val (.int p2), .val (.int kd), .val (.int (0 : Int32))] [])
        refine Rch.go (fun _ q => XS.iloadN X0.here hx rfl (hb hby at_35) rfl  q) ?_
        show Rch p e below _ s₁ (mkF m 36 #[.val (.int p1), .val (.int p2), .val (.int kd), .val (.int (0 : Int32))] [(.int kd)])
        obtain ⟨_, _, ⟨T2, L2, k2, n2⟩, -, X2, ⟨Lc2, hQ2, l2, y2, z2⟩, st2⟩ := Jvm.LawKit.callS X0 hx (y := (⟨"com/example/wirecall/wirecall/Frame", "isStream", "(I)Z"⟩ : MethodName)) hown (mvT hZ (hw _ (List.mem_of_getElem? (i := 0) rfl))) (mvT hZ (hw _ (List.mem_of_getElem? (i := 1) rfl))) (mvT hZ (hw _ (List.mem_of_getElem? (i := 2) rfl))) (mvT hZ (hw _ (List.mem_of_getElem? (i := 3) rfl))) (by decide) (backOf (W := 0) (rm1 l Z a0 hw [] kd h0 n0 Z0) hZ (hw _ (List.mem_of_getElem? (i := 3) rfl)) (hw _ (List.mem_of_getElem? (i := 2) rfl)) (by decide) (by decide)) (g := (mkF m 36 #[.val (.int p1), .val (.int p2), .val (.int kd), .val (.int (0 : Int32))] [(.int kd)])) rfl (by rw [hml]; rfl) (argsL := [(.int kd)]) (rest := []) (lenOf own_pd0 rfl) rfl (by show 2 * 0 + _ ≤ _; exact Nat.le_of_eq rfl) (hb hby at_36) (fun _ _ => ⟨rfl, e0, (by decide : 0 + 0 ≤ _), (by decide : 0 + 0 ≤ _)⟩)
        dsimp only [Pt.U, Pt.locs, Pt.cells, Pt.slots] at X2 l2 y2 z2 st2 hQ2
        subst l2 y2 z2
        obtain ⟨rfl, Nc, ec⟩ := hQ2
        refine Rch.go st2 ?_
        show Rch p e below _ T2 (mkF m 39 #[.val (.int p1), .val (.int p2), .val (.int kd), .val (.int (0 : Int32))] [(.int (own_str kd))])
        have Nd := Fr.app N0 Nc
        refine Rch.go (fun _ q => XS.iloadN X2.here hx rfl (hb hby at_39) rfl  q) ?_
        show Rch p e below _ T2 (mkF m 40 #[.val (.int p1), .val (.int p2), .val (.int kd), .val (.int (0 : Int32))] [(.int (0 : Int32)), (.int (own_str kd))])
        have hq : own_str kd = (0 : Int32) := by rw [own_key kd]; simp only [hc21, hc26, if_true, if_false]
        refine Rch.go (fun _ q => XS.icmpNo X2.here hx rfl (hb hby at_40) rfl (teq hq).2 q) ?_
        show Rch p e below _ T2 (mkF m 43 #[.val (.int p1), .val (.int p2), .val (.int kd), .val (.int (0 : Int32))] [])
        refine Rch.go (fun _ q => XS.iconst X2.here hx rfl (hb hby at_43) q) ?_
        show Rch p e below _ T2 (mkF m 44 #[.val (.int p1), .val (.int p2), .val (.int kd), .val (.int (0 : Int32))] [(.int (1 : Int32))])
        refine Rch.go (fun _ q => XS.goto X2.here hx rfl (pc0 := 44) (pc' := 48) rfl (hb hby at_44) (by decide) (by decide) q) ?_
        show Rch p e below _ T2 (mkF m 48 #[.val (.int p1), .val (.int p2), .val (.int kd), .val (.int (0 : Int32))] [(.int (1 : Int32))])
        refine Rch.retZ X2 hx hlk Bd.returns (hb hby at_48) (by decide) (by decide) ?_
        unfold Qrm0
        exact ⟨rfl, Nd⟩
      · skip
        refine Rch.go (fun _ q => XS.icmpNo X0.here hx rfl (hb hby at_26) rfl (flt hc26).2.2.1 q) ?_
        show Rch p e below _ s₁ (mkF m 29 #[.val (.int p1), .val (.int p2), .val (.int kd), .unset] [])
        refine Rch.go (fun _ q => XS.iconst X0.here hx rfl (hb hby at_29) q) ?_
        show Rch p e below _ s₁ (mkF m 30 #[.val (.int p1), .val (.int p2), .val (.int kd), .unset] [(.int (1 : Int32))])
        refine Rch.go (fun _ q => XS.goto X0.here hx rfl (pc0 := 30) (pc' := 34) rfl (hb hby at_30) (by decide) (by decide) q) ?_
        show Rch p e below _ s₁ (mkF m 34 #[.val (.int p1), .val (.int p2), .val (.int kd), .unset] [(.int (1 : Int32))])
        refine Rch.go (fun _ q => XS.istoreN X0.here hx rfl (hb hby at_34) rfl (l' := #[.val (.int p1), .val (.int p2), .val (.int kd), .val (.int (1 : Int32))]) rfl q) ?_
        show Rch p e below _ s₁ (mkF m 35 #[.val (.int p1), .val (.int p2), .val (.int kd), .val (.int (1 : Int32))] [])
        refine Rch.go (fun _ q => XS.iloadN X0.here hx rfl (hb hby at_35) rfl  q) ?_
        show Rch p e below _ s₁ (mkF m 36 #[.val (.int p1), .val (.int p2), .val (.int kd), .val (.int (1 : Int32))] [(.int kd)])
        obtain ⟨_, _, ⟨T3, L3, k3, n3⟩, -, X3, ⟨Lc3, hQ3, l3, y3, z3⟩, st3⟩ := Jvm.LawKit.callS X0 hx (y := (⟨"com/example/wirecall/wirecall/Frame", "isStream", "(I)Z"⟩ : MethodName)) hown (mvT hZ (hw _ (List.mem_of_getElem? (i := 0) rfl))) (mvT hZ (hw _ (List.mem_of_getElem? (i := 1) rfl))) (mvT hZ (hw _ (List.mem_of_getElem? (i := 2) rfl))) (mvT hZ (hw _ (List.mem_of_getElem? (i := 3) rfl))) (by decide) (backOf (W := 0) (rm1 l Z a0 hw [] kd h0 n0 Z0) hZ (hw _ (List.mem_of_getElem? (i := 3) rfl)) (hw _ (List.mem_of_getElem? (i := 2) rfl)) (by decide) (by decide)) (g := (mkF m 36 #[.val (.int p1), .val (.int p2), .val (.int kd), .val (.int (1 : Int32))] [(.int kd)])) rfl (by rw [hml]; rfl) (argsL := [(.int kd)]) (rest := []) (lenOf own_pd0 rfl) rfl (by show 2 * 0 + _ ≤ _; exact Nat.le_of_eq rfl) (hb hby at_36) (fun _ _ => ⟨rfl, e0, (by decide : 0 + 0 ≤ _), (by decide : 0 + 0 ≤ _)⟩)
        dsimp only [Pt.U, Pt.locs, Pt.cells, Pt.slots] at X3 l3 y3 z3 st3 hQ3
        subst l3 y3 z3
        obtain ⟨rfl, Nc, ec⟩ := hQ3
        refine Rch.go st3 ?_
        show Rch p e below _ T3 (mkF m 39 #[.val (.int p1), .val (.int p2), .val (.int kd), .val (.int (1 : Int32))] [(.int (own_str kd))])
        have Nd := Fr.app N0 Nc
        refine Rch.go (fun _ q => XS.iloadN X3.here hx rfl (hb hby at_39) rfl  q) ?_
        show Rch p e below _ T3 (mkF m 40 #[.val (.int p1), .val (.int p2), .val (.int kd), .val (.int (1 : Int32))] [(.int (1 : Int32)), (.int (own_str kd))])
        have hq : own_str kd = (1 : Int32) := by rw [own_key kd]; simp only [hc21, hc26, if_true, if_false]
        refine Rch.go (fun _ q => XS.icmpNo X3.here hx rfl (hb hby at_40) rfl (teq hq).2 q) ?_
        show Rch p e below _ T3 (mkF m 43 #[.val (.int p1), .val (.int p2), .val (.int kd), .val (.int (1 : Int32))] [])
        refine Rch.go (fun _ q => XS.iconst X3.here hx rfl (hb hby at_43) q) ?_
        show Rch p e below _ T3 (mkF m 44 #[.val (.int p1), .val (.int p2), .val (.int kd), .val (.int (1 : Int32))] [(.int (1 : Int32))])
        refine Rch.go (fun _ q => XS.goto X3.here hx rfl (pc0 := 44) (pc' := 48) rfl (hb hby at_44) (by decide) (by decide) q) ?_
        show Rch p e below _ T3 (mkF m 48 #[.val (.int p1), .val (.int p2), .val (.int kd), .val (.int (1 : Int32))] [(.int (1 : Int32))])
        refine Rch.retZ X3 hx hlk Bd.returns (hb hby at_48) (by decide) (by decide) ?_
        unfold Qrm0
        exact ⟨rfl, Nd⟩
  refine Rch.go (fun _ q => XS.iloadN X0.here hx rfl (hb hby at_0) rfl  q) ?_
  show Rch p e below _ s₁ (mkF m 1 #[.val (.int p1), .val (.int p2), .unset, .unset] [(.int p2)])
  refine Rch.go (fun _ q => XS.iconst X0.here hx rfl (hb hby at_1) q) ?_
  show Rch p e below _ s₁ (mkF m 2 #[.val (.int p1), .val (.int p2), .unset, .unset] [(.int (1 : Int32)), (.int p2)])
  refine Rch.go (fun _ q => XS.iand X0.here hx rfl (hb hby at_2) rfl q) ?_
  show Rch p e below _ s₁ (mkF m 3 #[.val (.int p1), .val (.int p2), .unset, .unset] [(.int (p2 &&& (1 : Int32)))])
  by_cases hc3 : (p2 &&& (1 : Int32)) = (0 : Int32)
  · skip
    refine Rch.go (fun _ q => XS.ifYes X0.here hx rfl (pc0 := 3) (pc' := 17) rfl (hb hby at_3) rfl ((if0 _ _).trans (teq hc3).1) (by decide) (by decide) q) ?_
    show Rch p e below _ s₁ (mkF m 17 #[.val (.int p1), .val (.int p2), .unset, .unset] [])
    refine Rch.go (fun _ q => XS.iloadN X0.here hx rfl (hb hby at_17) rfl  q) ?_
    show Rch p e below _ s₁ (mkF m 18 #[.val (.int p1), .val (.int p2), .unset, .unset] [(.int p1)])
    refine Rch.go (fun _ q => XS.istoreN X0.here hx rfl (hb hby at_18) rfl (l' := #[.val (.int p1), .val (.int p2), .val (.int p1), .unset]) rfl q) ?_
    show Rch p e below _ s₁ (mkF m 19 #[.val (.int p1), .val (.int p2), .val (.int p1), .unset] [])
    exact tail _
  · skip
    refine Rch.go (fun _ q => XS.ifNo X0.here hx rfl (hb hby at_3) rfl ((if0 _ _).trans (feq hc3).1) q) ?_
    show Rch p e below _ s₁ (mkF m 6 #[.val (.int p1), .val (.int p2), .unset, .unset] [])
    refine Rch.go (fun _ q => XS.iloadN X0.here hx rfl (hb hby at_6) rfl  q) ?_
    show Rch p e below _ s₁ (mkF m 7 #[.val (.int p1), .val (.int p2), .unset, .unset] [(.int p1)])
    refine Rch.go (fun _ q => XS.bipush X0.here hx rfl (hb hby at_7) q) ?_
    show Rch p e below _ s₁ (mkF m 9 #[.val (.int p1), .val (.int p2), .unset, .unset] [(.int (31 : Int32)), (.int p1)])
    refine Rch.go (fun _ q => XS.iand X0.here hx rfl (hb hby at_9) rfl q) ?_
    show Rch p e below _ s₁ (mkF m 10 #[.val (.int p1), .val (.int p2), .unset, .unset] [(.int (p1 &&& (31 : Int32)))])
    refine Rch.go (fun _ q => XS.bipush X0.here hx rfl (hb hby at_10) q) ?_
    show Rch p e below _ s₁ (mkF m 12 #[.val (.int p1), .val (.int p2), .unset, .unset] [(.int (8 : Int32)), (.int (p1 &&& (31 : Int32)))])
    refine Rch.go (fun _ q => XS.isub X0.here hx rfl (hb hby at_12) rfl q) ?_
    show Rch p e below _ s₁ (mkF m 13 #[.val (.int p1), .val (.int p2), .unset, .unset] [(.int ((p1 &&& (31 : Int32)) - (8 : Int32)))])
    refine Rch.go (fun _ q => XS.istoreN X0.here hx rfl (hb hby at_13) rfl (l' := #[.val (.int p1), .val (.int p2), .val (.int ((p1 &&& (31 : Int32)) - (8 : Int32))), .unset]) rfl q) ?_
    show Rch p e below _ s₁ (mkF m 14 #[.val (.int p1), .val (.int p2), .val (.int ((p1 &&& (31 : Int32)) - (8 : Int32))), .unset] [])
    refine Rch.go (fun _ q => XS.goto X0.here hx rfl (pc0 := 14) (pc' := 19) rfl (hb hby at_14) (by decide) (by decide) q) ?_
    show Rch p e below _ s₁ (mkF m 19 #[.val (.int p1), .val (.int p2), .val (.int ((p1 &&& (31 : Int32)) - (8 : Int32))), .unset] [])
    exact tail _
set_option maxRecDepth 65536 in
set_option maxHeartbeats 40000000 in
theorem comes_1 {Post : Tables → Env → Array Value → State → Outcome → State → Prop} (hpost : ∀ tb e args s v u, (limb_1_1.after args s (.returned v) u = true ∧ limb_1_2.after args s (.returned v) u = true ∧ True) → FrameEnd s (.returned v) u (Jvm.fieldLocs frame_1_writes args s ++ Jvm.arrayLocs frame_1_arrays args s ++ Jvm.staticLocs frame_1_statics s) 0 0 → Post tb e args s (.returned v) u) :
    ArmFor flags0 classFile x code maxLocals ret World_1 tables_1 room_1 Calls_1 rest_1 Pre_1 Post := by
  intro l hfl _ _ p e ha hc hk s m args below hf hA hF happ hP
  obtain ⟨hcalls, hrest, hpre⟩ := hP
  obtain ⟨-, -, -, hnamed, -, -, -, hat⟩ := (Spec.applies_iff hf).mp happ
  obtain ⟨hg, hn⟩ := and_e (Cond.before_iff.mp (show (Jvm.Cond.and given_1 narrow_1).before args s = true from hpre))
  obtain ⟨hcnt, hr0⟩ := and_e hg
  obtain ⟨w0, w1, rfl⟩ : ∃ w0 w1 : Value, args = #[w0, w1] := by
    have hs : args.size = 2 := by simpa [Cond.value, given_1] using hcnt
    obtain ⟨L⟩ := args
    match L, hs with
    | [w0, w1], _ => exact ⟨w0, w1, rfl⟩
  have hw := fun d (hd : d ∈ tables_1) => atoms_spec (ws := Jvm.Cond.code x code maxLocals ret :: tables_1) hat d (List.mem_cons_of_mem _ hd)
  obtain ⟨ha0, hr1⟩ := and_e hr0
  obtain ⟨i0, e0⟩ := is_v ha0
  obtain rfl : w0 = (.int i0) := Option.some.inj e0
  obtain ⟨i1, e1⟩ := is_v hr1
  obtain rfl : w1 = (.int i1) := Option.some.inj e1
  obtain ⟨n, o, h1, h2, h3, _, L, rfl, ⟨rfl, N⟩, hq⟩ := rm0 l s _ hw tables_1 i0 i1 s.heap s.heap.size (Nat.le_refl _) p e ha hc hk s m _ below hf ((Spec.applies_iff_loose hf).mp happ).1 ⟨rfl, State.Warmed39.refl s, rfl⟩ trivial
  refine ⟨n, _, h1, h2, h3, hpost _ _ _ _ _ _ ⟨Cond.after_iff.mpr rfl, Cond.after_iff.mpr (eq_i res_at (Term.int_eval (1)) rfl), trivial⟩ ⟨hq.1, hq.2.1, (hq.2.2.sift fun y hy => Or.inr (N y hy)).mono (by decide) (by decide)⟩⟩
theorem main_1_1 : Claimed_1_1 := comes_1 fun _ _ _ _ _ _ h hF => ⟨h.1, hF⟩
theorem main_1_2 : Claimed_1_2 := comes_1 fun _ _ _ _ _ _ h hF => ⟨h.2.1, hF⟩
end Jvm.Pilot.@@N@@
namespace Jvm.Pilot.@@N@@
open Jvm Jvm.ClassFile Sem Op Lib Jvm.Free Jvm.Stand Jvm.Pilot.@@N@@.Jvm.D
/-! MADE BY PROGRAM (witnessworld.py) out of the Statement's table words and the real class files: 10 classes; the members and pool entries that the words name. The judged class is class 1, her method 1. -/
namespace start1
open Jvm.ClassFile
def u (s : String) : CpInfo := .utf8 (stringToUtf16 s)
/-- a pool by its gaps: so many unusable entries, then the entry; so many at the end -/
def gap : Nat → List CpInfo → List CpInfo
  | 0, r => r
  | n + 1, r => .unusable :: gap n r
def poolList (es : List (Nat × CpInfo)) (last : Nat) : List CpInfo := es.foldr (fun e r => gap e.1 (e.2 :: r)) (gap last [])
def pool (es : List (Nat × CpInfo)) (last : Nat) : Array CpInfo := ⟨poolList es last⟩
def fileOf (pool : Array CpInfo) (this : Nat) (attrs : Array Attribute := #[]) (ms : Array MethodInfo := #[]) (fl : Nat := 33) (sup : Nat := 0) (ifs : Array Nat := #[]) (fds : Array FieldInfo := #[]) : ClassFile where
  minorVersion := 0
  majorVersion := 65
  constantPool := pool
  accessFlags := fl
  thisClass := this
  superClass := sup
  interfaces := ifs
  fields := fds
  methods := ms
  attributes := attrs
def plain (name : String) (sup : Option ClassId) : Class where
  name := name
  kind := .ordinary
  loader := none
  accessFlags := 33
  super := sup
  interfaces := #[]
  cf := none
  fields := #[]
  methods := #[]
  instanceTypes := #[]
  staticTypes := #[]
  resolved := #[]
  callSites := []
  init := .initialized
  statics := none
  mirror := none

def pool0 : Array CpInfo := pool [(5, u "<init>"), (0, u "()V"), (1, .class_ 10), (1, u "java/lang/Object")] 113

def k0m0 : Method := { name := "<init>", desc := "()V", sig := { parameters := [], returnType := none }, accessFlags := 1, code := none }
/-- java/lang/Object -/
def k0 : Class := { plain "java/lang/Object" none with
  accessFlags := 33
  interfaces := #[]
  cf := some (fileOf pool0 8 #[] #[{ accessFlags := 1, nameIndex := 5, descriptorIndex := 6, attributes := #[] }] 33 0 #[] #[])
  fields := #[]
  methods := #[k0m0]
  instanceTypes := #[]
  staticTypes := #[]
  resolved := Array.replicate 124 none
  statics := none }

def pool1 : Array CpInfo := pool [(2, .class_ 4), (1, u "java/lang/Object"), (0, u "<init>"), (0, u "()V"), (0, .methodref 8 9), (0, .class_ 10), (0, .nameAndType 11 12), (0, u "com/example/wirecall/wirecall/Frame"), (0, u "isStream"), (0, u "(I)Z"), (0, .class_ 14), (0, u "com/example/wirecall/wirecall/FrameIsStreamPinLaw"), (2, u "law"), (0, u "(II)Z")] 3

def k1m0 : Method := { name := "<init>", desc := "()V", sig := { parameters := [], returnType := none }, accessFlags := 2, code := none }
def k1c1 : Code := { maxStack := 2, maxLocals := 4, code := code, exceptionTable := #[], attributes := #[] }
def k1m1 : Method := { name := "law", desc := "(II)Z", sig := { parameters := [.int, .int], returnType := some .boolean }, accessFlags := 9, code := some k1c1 }
/-- com/example/wirecall/wirecall/FrameIsStreamPinLaw -/
def k1 : Class := { plain "com/example/wirecall/wirecall/FrameIsStreamPinLaw" (some 0) with
  accessFlags := 49
  interfaces := #[]
  cf := some (fileOf pool1 13 #[] #[{ accessFlags := 2, nameIndex := 5, descriptorIndex := 6, attributes := #[] }, { accessFlags := 9, nameIndex := 17, descriptorIndex := 18, attributes := #[] }] 49 2 #[] #[])
  fields := #[]
  methods := #[k1m0, k1m1]
  instanceTypes := #[]
  staticTypes := #[]
  resolved := Array.replicate 22 none
  statics := none }

def pool2 : Array CpInfo := pool [(2, .class_ 4), (1, u "java/lang/Object"), (0, u "<init>"), (0, u "()V"), (0, .class_ 8), (0, u "java/lang/Record")] 13

def k2m0 : Method := { name := "<init>", desc := "()V", sig := { parameters := [], returnType := none }, accessFlags := 4, code := none }
/-- java/lang/Record -/
def k2 : Class := { plain "java/lang/Record" (some 0) with
  accessFlags := 1057
  interfaces := #[]
  cf := some (fileOf pool2 7 #[] #[{ accessFlags := 4, nameIndex := 5, descriptorIndex := 6, attributes := #[] }] 1057 2 #[] #[])
  fields := #[]
  methods := #[k2m0]
  instanceTypes := #[]
  staticTypes := #[]
  resolved := Array.replicate 22 none
  statics := none }

def pool3 : Array CpInfo := pool [(1, .class_ 2), (0, u "com/example/wirecall/wirecall/Frame"), (3, .class_ 8), (1, u "java/lang/Record"), (4, u "kind"), (0, u "I"), (2, u "flags"), (2, u "callId"), (2, u "word"), (2, u "payload"), (0, u "[B"), (2, u "DEFINED_KINDS"), (0, u "Ljava/util/Set;"), (89, u "REQUEST"), (2, u "RESPONSE"), (1, u "REQUEST_UPDATE"), (1, u "RESPONSE_UPDATE"), (1, u "NOTIFY"), (1, u "CANCEL"), (1, u "REQUEST_END"), (1, u "HELLO"), (1, u "GOAWAY"), (1, u "ROOM"), (1, u "ROOM_WANTED"), (1, u "PROBE"), (1, u "PROBE_ANSWER"), (3, u "LENGTH_FIELD"), (0, u "HEADER_BYTES"), (4, u "(I)Z"), (0, u "isStream"), (11, .class_ 170), (0, u "com/example/wirecall/wirecall/Frame$HeaderCheck")] 23

def k3c0 : Code := { maxStack := 2, maxLocals := 1, code := prog_35_method_3_code, exceptionTable := #[], attributes := #[] }
def k3m0 : Method := { name := "isStream", desc := "(I)Z", sig := { parameters := [.int], returnType := some .boolean }, accessFlags := 8, code := some k3c0 }
/-- com/example/wirecall/wirecall/Frame -/
def k3 : Class := { plain "com/example/wirecall/wirecall/Frame" (some 2) with
  accessFlags := 48
  interfaces := #[]
  cf := some (fileOf pool3 1 #[.nestMembers #[169]] #[{ accessFlags := 8, nameIndex := 157, descriptorIndex := 156, attributes := #[] }] 48 6 #[] #[{ accessFlags := 18, nameIndex := 13, descriptorIndex := 14, attributes := #[] }, { accessFlags := 18, nameIndex := 17, descriptorIndex := 14, attributes := #[] }, { accessFlags := 18, nameIndex := 20, descriptorIndex := 14, attributes := #[] }, { accessFlags := 18, nameIndex := 23, descriptorIndex := 14, attributes := #[] }, { accessFlags := 18, nameIndex := 26, descriptorIndex := 27, attributes := #[] }, { accessFlags := 24, nameIndex := 121, descriptorIndex := 14, attributes := #[] }, { accessFlags := 24, nameIndex := 124, descriptorIndex := 14, attributes := #[] }, { accessFlags := 24, nameIndex := 126, descriptorIndex := 14, attributes := #[] }, { accessFlags := 24, nameIndex := 128, descriptorIndex := 14, attributes := #[] }, { accessFlags := 24, nameIndex := 130, descriptorIndex := 14, attributes := #[] }, { accessFlags := 24, nameIndex := 132, descriptorIndex := 14, attributes := #[] }, { accessFlags := 24, nameIndex := 134, descriptorIndex := 14, attributes := #[] }, { accessFlags := 24, nameIndex := 136, descriptorIndex := 14, attributes := #[] }, { accessFlags := 24, nameIndex := 138, descriptorIndex := 14, attributes := #[] }, { accessFlags := 24, nameIndex := 140, descriptorIndex := 14, attributes := #[] }, { accessFlags := 24, nameIndex := 142, descriptorIndex := 14, attributes := #[] }, { accessFlags := 24, nameIndex := 144, descriptorIndex := 14, attributes := #[] }, { accessFlags := 24, nameIndex := 146, descriptorIndex := 14, attributes := #[] }, { accessFlags := 26, nameIndex := 30, descriptorIndex := 31, attributes := #[] }, { accessFlags := 24, nameIndex := 150, descriptorIndex := 14, attributes := #[] }, { accessFlags := 24, nameIndex := 151, descriptorIndex := 14, attributes := #[] }])
  fields := #[{ name := "kind", type := .int, accessFlags := 18, slot := 0, constantValue := 0 }, { name := "flags", type := .int, accessFlags := 18, slot := 1, constantValue := 0 }, { name := "callId", type := .int, accessFlags := 18, slot := 2, constantValue := 0 }, { name := "word", type := .int, accessFlags := 18, slot := 3, constantValue := 0 }, { name := "payload", type := (.array .byte), accessFlags := 18, slot := 4, constantValue := 0 }, { name := "REQUEST", type := .int, accessFlags := 24, slot := 0, constantValue := 0 }, { name := "RESPONSE", type := .int, accessFlags := 24, slot := 1, constantValue := 0 }, { name := "REQUEST_UPDATE", type := .int, accessFlags := 24, slot := 2, constantValue := 0 }, { name := "RESPONSE_UPDATE", type := .int, accessFlags := 24, slot := 3, constantValue := 0 }, { name := "NOTIFY", type := .int, accessFlags := 24, slot := 4, constantValue := 0 }, { name := "CANCEL", type := .int, accessFlags := 24, slot := 5, constantValue := 0 }, { name := "REQUEST_END", type := .int, accessFlags := 24, slot := 6, constantValue := 0 }, { name := "HELLO", type := .int, accessFlags := 24, slot := 7, constantValue := 0 }, { name := "GOAWAY", type := .int, accessFlags := 24, slot := 8, constantValue := 0 }, { name := "ROOM", type := .int, accessFlags := 24, slot := 9, constantValue := 0 }, { name := "ROOM_WANTED", type := .int, accessFlags := 24, slot := 10, constantValue := 0 }, { name := "PROBE", type := .int, accessFlags := 24, slot := 11, constantValue := 0 }, { name := "PROBE_ANSWER", type := .int, accessFlags := 24, slot := 12, constantValue := 0 }, { name := "DEFINED_KINDS", type := (.object "java/util/Set"), accessFlags := 26, slot := 13, constantValue := 0 }, { name := "LENGTH_FIELD", type := .int, accessFlags := 24, slot := 14, constantValue := 0 }, { name := "HEADER_BYTES", type := .int, accessFlags := 24, slot := 15, constantValue := 0 }]
  methods := #[k3m0]
  instanceTypes := #[.int, .int, .int, .int, (.array .byte)]
  staticTypes := #[.int, .int, .int, .int, .int, .int, .int, .int, .int, .int, .int, .int, .int, (.object "java/util/Set"), .int, .int]
  resolved := Array.replicate 194 none
  statics := none }

def pool4 : Array CpInfo := pool [(1, u "java/lang/Cloneable"), (0, .class_ 1), (0, u "java/lang/Object"), (0, .class_ 3)] 3

/-- java/lang/Cloneable -/
def k4 : Class := { plain "java/lang/Cloneable" (some 0) with
  accessFlags := 1537
  interfaces := #[]
  cf := some (fileOf pool4 2 #[] #[] 1537 4 #[] #[])
  fields := #[]
  methods := #[]
  instanceTypes := #[]
  staticTypes := #[]
  resolved := Array.replicate 8 none
  statics := none }

def pool5 : Array CpInfo := pool [(1, u "java/io/Serializable"), (0, .class_ 1), (0, u "java/lang/Object"), (0, .class_ 3)] 3

/-- java/io/Serializable -/
def k5 : Class := { plain "java/io/Serializable" (some 0) with
  accessFlags := 1537
  interfaces := #[]
  cf := some (fileOf pool5 2 #[] #[] 1537 4 #[] #[])
  fields := #[]
  methods := #[]
  instanceTypes := #[]
  staticTypes := #[]
  resolved := Array.replicate 8 none
  statics := none }

/-- the primitive byte -/
def k6 : Class := { plain "byte" none with kind := .primitive 'B', accessFlags := 0x411 }
/-- [B -/
def k7 : Class := { plain "[B" (some 0) with kind := .array 6 .byte, interfaces := #[4, 5], accessFlags := 1041 }

/-- the primitive int -/
def k8 : Class := { plain "int" none with kind := .primitive 'I', accessFlags := 0x411 }
/-- [I -/
def k9 : Class := { plain "[I" (some 0) with kind := .array 8 .int, interfaces := #[4, 5], accessFlags := 1041 }

def heap : Heap := #[]
def classes : Array Class := #[k0, k1, k2, k3, k4, k5, k6, k7, k8, k9]
def interned : List (Array UInt16 × Addr) := []
def slotsUsed : Nat := 0
def theMethod : MethodId := ⟨1, 1⟩
def args0 : Array Value := #[.int 3, .int 2]
def aboutOver (below : List Frame) : State where
  vm := { classes := classes, interned := interned.toArray }
  heap := heap
  slotsUsed := slotsUsed
  threads := #[{ frames := .invoking theMethod args0 :: below }]
def below0 : List Frame := [.native { method := ⟨0, 0⟩, args := #[] }]
def about1 : State := aboutOver below0
def p0 : Program := .bare "" "" ""
def e0 : Env := launch0.env 0 0 0
theorem w_frames : about1.frames = Frame.invoking theMethod args0 :: below0 := rfl
set_option maxRecDepth 65536 in
theorem w_args : argsFit about1.vm theMethod args0 = true := by decide +kernel
set_option maxRecDepth 65536 in
theorem w_heap : heapFits about1 = true := by decide +kernel
set_option maxRecDepth 65536 in
theorem w_runnable : about1.curStatus? = some .runnable := by decide +kernel
set_option maxRecDepth 65536 in
theorem w_alone : about1.alone = true := by decide +kernel
set_option maxRecDepth 65536 in
theorem w_named : about1.methodNamed? x = some theMethod := by decide +kernel
set_option maxRecDepth 65536 in
theorem w_hears : about1.hears theMethod below0 = true := by decide +kernel
set_option maxRecDepth 65536 in
theorem w_ripe : about1.ripe theMethod args0 below0 = true := by decide +kernel
theorem w_running : about1.status = .running := rfl
set_option maxRecDepth 65536 in
theorem w_room : about1.hasRoom e0.platform room_1 = true :=
  launch0.hasRoom_least _ room_1 (by decide +kernel) (by decide +kernel) (by decide +kernel) (by decide +kernel) (by decide +kernel) (by decide +kernel)
theorem allAtoms_all (ts : List Jvm.Cond) (a : Array Jvm.Value) (st : Jvm.State) : (allAtoms ts).before a st = ts.all (fun c => c.before a st) := by
  induction ts with
  | nil => rfl
  | cons c t ih =>
    show (Jvm.Cond.and c (allAtoms t)).before a st = _
    rw [Jvm.Cond.before_and, ih, List.all_cons]
def words1 : List Jvm.Cond := Jvm.Cond.code x code maxLocals ret :: tables_1
/-- a 'code' word, met by the world's own term for the bytes: nothing is compared byte by byte -/
theorem code_word {y : MethodName} {bytes : ByteArray} {mx : Nat} {rt : Option FieldType} {a : Array Value} {s : State} {m : MethodId} {meth : Method} {c : Code} (h1 : s.methodNamed? y = some m) (h2 : s.vm.method? m = some meth) (h3 : meth.code = some c) (h4 : c.code = bytes)
    (h5 : (c.maxLocals == mx && c.exceptionTable.isEmpty && decide (c.maxStack ≤ mostOperands) && decide (meth.sig.returnType = rt) && !meth.locks && decide (parseMethodDescriptor y.desc = some meth.sig)) = true) : (Jvm.Cond.code y bytes mx rt).before a s = true := by
  simp only [Bool.and_eq_true, beq_iff_eq, Bool.not_eq_true', decide_eq_true_eq] at h5
  obtain ⟨⟨⟨⟨⟨g1, g2⟩, g3⟩, g4⟩, g5⟩, g6⟩ := h5
  simp [Cond.before, Cond.holds, Cond.value, h1, h2, h3, h4, g1, g2, g3, g4, g5, g6]
def isCode : Jvm.Cond → Bool
  | .code _ _ _ _ => true
  | _ => false
theorem all_split {L : List Jvm.Cond} {P : Jvm.Cond → Bool} (h1 : L.all (fun c => isCode c || P c) = true) (h2 : ∀ c ∈ L.filter isCode, P c = true) : L.all P = true := by
  refine List.all_eq_true.mpr fun c hc => ?_
  have h := List.all_eq_true.mp h1 c hc
  rcases Bool.eq_false_or_eq_true (isCode c) with hi | hi
  · exact h2 c (List.mem_filter.mpr ⟨hc, hi⟩)
  · simpa [hi] using h
set_option maxRecDepth 65536 in
theorem w_c0 : (Jvm.Cond.code x code maxLocals ret).before args0 about1 = true := code_word (m := ⟨1, 1⟩) (meth := k1m1) (c := k1c1) (by decide +kernel) rfl rfl rfl (by decide +kernel)
set_option maxRecDepth 65536 in
theorem w_c1 : (Jvm.Cond.code ({ cls := "com/example/wirecall/wirecall/Frame", name := "isStream", desc := "(I)Z" } : Jvm.MethodName) prog_35_method_3_code (1 : Nat) (Option.some Jvm.ClassFile.FieldType.boolean)).before args0 about1 = true := code_word (m := ⟨3, 0⟩) (meth := k3m0) (c := k3c0) (by decide +kernel) rfl rfl rfl (by decide +kernel)
def codes1 : List Jvm.Cond := [Jvm.Cond.code x code maxLocals ret, Jvm.Cond.code ({ cls := "com/example/wirecall/wirecall/Frame", name := "isStream", desc := "(I)Z" } : Jvm.MethodName) prog_35_method_3_code (1 : Nat) (Option.some Jvm.ClassFile.FieldType.boolean)]
set_option maxRecDepth 65536 in
theorem codes_eq : words1.filter isCode = codes1 := rfl
theorem w_codes : ∀ c ∈ words1.filter isCode, c.before args0 about1 = true := by
  rw [codes_eq]
  intro c hc
  simp only [codes1, List.mem_cons, List.not_mem_nil, or_false] at hc
  rcases hc with rfl | rfl
  · exact w_c0
  · exact w_c1
set_option maxRecDepth 65536 in
theorem w_t1 : words1.all (fun c => isCode c || c.before args0 about1) = true := by decide +kernel
theorem w_tables : (allAtoms (Jvm.Cond.code x code maxLocals ret :: tables_1)).before args0 about1 = true := by
  rw [allAtoms_all]
  show words1.all (fun c => c.before args0 about1) = true
  refine all_split ?_ w_codes
  rw [w_t1]
set_option maxRecDepth 65536 in
theorem w_case : (Jvm.Cond.and given_1 narrow_1).before args0 about1 = true := by decide +kernel
theorem w_applies : (headSpec (Jvm.Cond.code x code maxLocals ret :: tables_1) room_1).applies x e0.platform about1 = true :=
  (Spec.applies_iff w_frames).mpr ⟨w_running, w_runnable, w_alone, w_named, w_hears, w_ripe, w_room, w_tables⟩
theorem atStart : AtStart classFile x code maxLocals ret World_1 tables_1 room_1 Calls_1 rest_1 Pre_1 launch0 p0 e0 about1 theMethod args0 below0 :=
  ⟨lists_1, trivial, launch0.admits_env _ _ _, launch0.least_env, fairChoices_fair.cas, fairChoices_fair.clock, w_frames, w_args, w_heap, w_applies, trivial, trivial, w_case⟩
end start1
theorem witness_1 : WitnessClaimed_1 := ⟨start1.p0, start1.e0, start1.about1, start1.theMethod, start1.args0, start1.below0, start1.atStart⟩
end Jvm.Pilot.@@N@@
