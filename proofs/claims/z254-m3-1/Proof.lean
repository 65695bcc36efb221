import JvmDerived
import JvmDerived.Pilot.@@N@@Statement
import JvmDerived.Pilot.@@N@@Code
set_option linter.unusedVariables false
set_option linter.unusedSimpArgs false
namespace Jvm.RoadKit
open Sem ClassFile Op Lib Jvm.Stand Jvm.Free Jvm.LawKit
section Own
variable {p : Program} {l : Launch} {e : Env} {R : Room} {s : State} {m : MethodId} {args : Array Value} {below : List Frame} {meth : Method} {c : Code} {T : State} {locs : List Loc} {cells slots : Nat} {Z : State} {a0 : Array Value} {h h' : Heap}
theorem retI (X : Stand p l e R s m args below meth c T locs cells slots) (hx : p.tables.exec = Jvm.exec) {pc : Nat} {Ls : Array Slot} {z : Int32} {rest : List Value} (hret : meth.sig.returnType = some .int) (hd : decode c.code pc = .ok (.ireturn, 1)) {fs : List Frame}
    (hl : ∀ (f : JFrame) (acts : List Action), f.method = m → f.locked = none → f.entered = [] → (doReturn e (T.setTop f) acts (some (.int z))).1 = T.setFrames fs) : Steps p.tables e below (T.setTop (mkF m pc Ls (.int z :: rest))) (T.setFrames fs) := by
  have hm' : T.vm.method? m = some meth := X.method'
  have hn : narrow .int (.int z) = .int z := rfl
  show Steps p.tables e below (T.setTop { method := m, pc := pc, locals := Ls, stack := _ :: rest, locked := none }) _
  jvm_step X.here [X.here.top, hx, hd, hm', hret, hn]
  first | (intro acts; rw [hl _ acts rfl rfl rfl]) | rw [hl _ _ rfl rfl rfl]
  exact Steps.refl _
/-- from this frame the walk comes to an end that says G -/
def Rch (p : Program) (e : Env) (below : List Frame) (G : State → Outcome → Prop) (T : State) (g : JFrame) : Prop :=
  ∃ s₂ o, Steps p.tables e below (T.setTop g) s₂ ∧ s₂.status = .running ∧ Ended s₂ below o ∧ G s₂ o
variable {G : State → Outcome → Prop} {T' : State} {g g' : JFrame}
theorem Rch.go (st : ∀ t, Steps p.tables e below (T'.setTop g') t → Steps p.tables e below (T.setTop g) t) (k : Rch p e below G T' g') : Rch p e below G T g := by
  obtain ⟨s2, o, a, b⟩ := k
  exact ⟨s2, o, st _ a, b⟩
theorem Rch.jump (st : Steps p.tables e below (T.setTop g) (T'.setTop g')) (k : Rch p e below G T' g') : Rch p e below G T g := Rch.go (fun _ q => st.trans q) k
theorem Rch.entry {n : Nat} (q : entryFrame m args n = g) (k : Rch p e below G T g) : ∃ s₂ o, Steps p.tables e below (T.setTop (entryFrame m args n)) s₂ ∧ s₂.status = .running ∧ Ended s₂ below o ∧ G s₂ o := by rw [q]; exact k
/-- what a contract says of its end -/
def EndQ (Q : Option Value → Heap → List Loc → Prop) (U : State) (kc ks : Nat) (U' : State) (o : Outcome) : Prop := ∃ v L, o = .returned v ∧ Q v U'.heap L ∧ FrameEnd U o U' L kc ks
variable {Q : Option Value → Heap → List Loc → Prop} {kc ks : Nat} {pc : Nat} {Ls : Array Slot} {rest : List Value}
theorem Rch.retI (X : Stand p l e R s m args below meth c T locs cells slots) (hx : p.tables.exec = Jvm.exec) (hlk : meth.locks = false) {z : Int32} (hret : meth.sig.returnType = some .int) (hd : decode c.code pc = .ok (.ireturn, 1)) (hc : cells ≤ kc) (hs : slots ≤ ks) (hQ : Q (some (.int z)) T.heap locs) : Rch p e below (EndQ Q s kc ks) T (mkF m pc Ls (.int z :: rest)) := by
  obtain ⟨fs, hr, hrun, hended, hW, hsame⟩ := X.leave (v := some (.int z)) (fun h => by rw [hret] at h; cases h)
  exact ⟨_, _, Jvm.RoadKit.retI X hx hret hd hr, hrun, hended, _, _, rfl, hQ, ⟨_, rfl⟩, hW, hsame.mono hc hs⟩
theorem Rch.retZ (X : Stand p l e R s m args below meth c T locs cells slots) (hx : p.tables.exec = Jvm.exec) (hlk : meth.locks = false) {z : Int32} (hret : meth.sig.returnType = some .boolean) (hd : decode c.code pc = .ok (.ireturn, 1)) (hc : cells ≤ kc) (hs : slots ≤ ks) (hQ : Q (some (.int (nar .boolean z))) T.heap locs) : Rch p e below (EndQ Q s kc ks) T (mkF m pc Ls (.int z :: rest)) := by
  obtain ⟨fs, hr, hrun, hended, hW, hsame⟩ := X.leave (v := some (.int (nar .boolean z))) (fun h => by rw [hret] at h; cases h)
  exact ⟨_, _, retN X hx hret (Or.inl rfl) hd hr, hrun, hended, _, _, rfl, hQ, ⟨_, rfl⟩, hW, hsame.mono hc hs⟩
theorem Rch.retJ (X : Stand p l e R s m args below meth c T locs cells slots) (hx : p.tables.exec = Jvm.exec) (hlk : meth.locks = false) {z : Int64} (hret : meth.sig.returnType = some .long) (hd : decode c.code pc = .ok (.lreturn, 1)) (hc : cells ≤ kc) (hs : slots ≤ ks) (hQ : Q (some (.long z)) T.heap locs) : Rch p e below (EndQ Q s kc ks) T (mkF m pc Ls (.long z :: rest)) := by
  obtain ⟨fs, hr, hrun, hended, hW, hsame⟩ := X.leave (v := some (.long z)) (fun h => by rw [hret] at h; cases h)
  exact ⟨_, _, retOut X hx hret rfl (Or.inr (Or.inl ⟨rfl, rfl, _, rfl⟩)) hd hr, hrun, hended, _, _, rfl, hQ, ⟨_, rfl⟩, hW, hsame.mono hc hs⟩
theorem Rch.retA (X : Stand p l e R s m args below meth c T locs cells slots) (hx : p.tables.exec = Jvm.exec) (hlk : meth.locks = false) {a : Addr} {t : FieldType} (ht : t.isReference = true) (hn : narrow t (.ref a) = .ref a) (hret : meth.sig.returnType = some t) (hd : decode c.code pc = .ok (.areturn, 1)) (hc : cells ≤ kc) (hs : slots ≤ ks) (hQ : Q (some (.ref a)) T.heap locs) : Rch p e below (EndQ Q s kc ks) T (mkF m pc Ls (.ref a :: rest)) := by
  obtain ⟨fs, hr, hrun, hended, hW, hsame⟩ := X.leave (v := some (.ref a)) (fun h => by rw [hret] at h; cases h)
  exact ⟨_, _, retOut X hx hret hn (Or.inr (Or.inr (Or.inr (Or.inr ⟨rfl, ht, rfl⟩)))) hd hr, hrun, hended, _, _, rfl, hQ, ⟨_, rfl⟩, hW, hsame.mono hc hs⟩
theorem Rch.retV (X : Stand p l e R s m args below meth c T locs cells slots) (hx : p.tables.exec = Jvm.exec) (hlk : meth.locks = false) (hret : meth.sig.returnType = none) (hd : decode c.code pc = .ok (.return_, 1)) (hc : cells ≤ kc) (hs : slots ≤ ks) (hQ : Q none T.heap locs) : Rch p e below (EndQ Q s kc ks) T (mkF m pc Ls []) := by
  obtain ⟨fs, hr, hrun, hended, hW, hsame⟩ := X.leave (v := none) (fun _ => rfl)
  exact ⟨_, _, X.returnOut hx hret hd hr, hrun, hended, _, _, rfl, hQ, ⟨_, rfl⟩, hW, hsame.mono hc hs⟩
variable {a : Addr} {k : ClassId} {z : Int32} {vs : List Value} {dv : Value} {ty : FieldType}
theorem ldB (X : Stand p l e R s m args below meth c T locs cells slots) (hx : p.tables.exec = Jvm.exec) (hZ : Z.Warmed39 s.vm) (eT : T.heap = h) (V : Arv Z h a k .byte z vs dv) {j : Int32} {v : Value} (hj : ¬ j < 0 ∧ j < z) (hv : vs.getD j.toNatClampNeg dv = v) (hg : g.method = m) (hs : g.stack = .int j :: .ref a :: rest) (hd : decode c.code g.pc = .ok (.baload, 1)) (target : State)
    (hr : Steps p.tables e below (T.setTop { g with pc := g.pc + 1, stack := v :: rest }) target) : Steps p.tables e below (T.setTop g) target := by
  obtain ⟨c', A, -, S, M, H, -⟩ := V
  exact X.baloadBytes hx (by rw [eT]; exact A.1) (State.isArrayOf_alike hZ.alike A.2.1) A.2.2 (inb_of S hj) (H.at (inb_of S hj) hv) hg hs hd target hr
theorem ldI (X : Stand p l e R s m args below meth c T locs cells slots) (hx : p.tables.exec = Jvm.exec) (hZ : Z.Warmed39 s.vm) (eT : T.heap = h) (V : Arv Z h a k .int z vs dv) {j : Int32} {v : Value} (hj : ¬ j < 0 ∧ j < z) (hv : vs.getD j.toNatClampNeg dv = v) (hg : g.method = m) (hs : g.stack = .int j :: .ref a :: rest) (hd : decode c.code g.pc = .ok (.iaload, 1)) (target : State)
    (hr : Steps p.tables e below (T.setTop { g with pc := g.pc + 1, stack := v :: rest }) target) : Steps p.tables e below (T.setTop g) target := by
  obtain ⟨c', A, -, S, M, H, -⟩ := V
  exact X.iaload hx (by rw [eT]; exact A.1) (State.isArrayOf_alike hZ.alike A.2.1) A.2.2 (inb_of S hj) (H.at (inb_of S hj) hv) hg hs hd target hr
theorem ldJ (X : Stand p l e R s m args below meth c T locs cells slots) (hx : p.tables.exec = Jvm.exec) (hZ : Z.Warmed39 s.vm) (eT : T.heap = h) (V : Arv Z h a k .long z vs dv) {j : Int32} {v : Value} (hj : ¬ j < 0 ∧ j < z) (hv : vs.getD j.toNatClampNeg dv = v) (hg : g.method = m) (hs : g.stack = .int j :: .ref a :: rest) (hd : decode c.code g.pc = .ok (.laload, 1)) (target : State)
    (hr : Steps p.tables e below (T.setTop { g with pc := g.pc + 1, stack := v :: rest }) target) : Steps p.tables e below (T.setTop g) target := by
  obtain ⟨c', A, -, S, M, H, -⟩ := V
  exact X.laload hx (by rw [eT]; exact A.1) (State.isArrayOf_alike hZ.alike A.2.1) A.2.2 (inb_of S hj) (H.at (inb_of S hj) hv) hg hs hd target hr
theorem lenA (X : Stand p l e R s m args below meth c T locs cells slots) (hx : p.tables.exec = Jvm.exec) (hZ : Z.Warmed39 s.vm) (eT : T.heap = h) (V : Arv Z h a k ty z vs dv) (hg : g.method = m) (hs : g.stack = .ref a :: rest) (hd : decode c.code g.pc = .ok (.arraylength, 1)) (target : State)
    (hr : Steps p.tables e below (T.setTop { g with pc := g.pc + 1, stack := .int z :: rest }) target) : Steps p.tables e below (T.setTop g) target := by
  obtain ⟨c', A, -, S, M, H, -⟩ := V
  exact X.arraylength hx (by rw [eT]; exact A.1) (State.isArrayOf_alike hZ.alike A.2.1) hg hs hd target (by rw [len_of S M]; exact hr)
theorem sdB (X : Stand p l e R s m args below meth c T locs cells slots) (hx : p.tables.exec = Jvm.exec) (hZ : Z.Warmed39 s.vm) (eT : T.heap = h) (V : Arv Z h a k .byte z vs dv) {j x : Int32} (hj : ¬ j < 0 ∧ j < z) (i : Nat) (hi : j.toNatClampNeg = i) (hl : i < vs.length) (hg : g.method = m) (hs : g.stack = .int x :: .int j :: .ref a :: rest) (hd : decode c.code g.pc = .ok (.bastore, 1)) :
    ∃ T' h', Stand p l e R s m args below meth c T' (locs ++ [⟨a, j.toNatClampNeg⟩]) cells slots ∧ T'.heap = h' ∧ Wr h h' a j.toNatClampNeg (.int (nar .byte x)) ∧ Arv Z h' a k .byte z (vs.set i (.int (nar .byte x))) dv ∧ ∀ target, Steps p.tables e below (T'.setTop { g with pc := g.pc + 1, stack := rest }) target → Steps p.tables e below (T.setTop g) target := by
  obtain ⟨c', A, q1, S, M, H, F⟩ := V
  obtain ⟨T', h', X', e', W, st⟩ := stB X hx hZ eT A (inb_of S hj) hg hs hd
  exact ⟨T', h', X', e', W, Arv.set A q1 S M H F (fits_nar_byte x) W i hi hl, st⟩
theorem sdI (X : Stand p l e R s m args below meth c T locs cells slots) (hx : p.tables.exec = Jvm.exec) (hZ : Z.Warmed39 s.vm) (eT : T.heap = h) (V : Arv Z h a k .int z vs dv) {j x : Int32} (hj : ¬ j < 0 ∧ j < z) (i : Nat) (hi : j.toNatClampNeg = i) (hl : i < vs.length) (hg : g.method = m) (hs : g.stack = .int x :: .int j :: .ref a :: rest) (hd : decode c.code g.pc = .ok (.iastore, 1)) :
    ∃ T' h', Stand p l e R s m args below meth c T' (locs ++ [⟨a, j.toNatClampNeg⟩]) cells slots ∧ T'.heap = h' ∧ Wr h h' a j.toNatClampNeg (.int x) ∧ Arv Z h' a k .int z (vs.set i (.int x)) dv ∧ ∀ target, Steps p.tables e below (T'.setTop { g with pc := g.pc + 1, stack := rest }) target → Steps p.tables e below (T.setTop g) target := by
  obtain ⟨c', A, q1, S, M, H, F⟩ := V
  obtain ⟨T', h', X', e', W, st⟩ := stI X hx hZ eT A (inb_of S hj) hg hs hd
  exact ⟨T', h', X', e', W, Arv.set A q1 S M H F rfl W i hi hl, st⟩
theorem sdJ (X : Stand p l e R s m args below meth c T locs cells slots) (hx : p.tables.exec = Jvm.exec) (hZ : Z.Warmed39 s.vm) (eT : T.heap = h) (V : Arv Z h a k .long z vs dv) {j : Int32} {x : Int64} (hj : ¬ j < 0 ∧ j < z) (i : Nat) (hi : j.toNatClampNeg = i) (hl : i < vs.length) (hg : g.method = m) (hs : g.stack = .long x :: .int j :: .ref a :: rest) (hd : decode c.code g.pc = .ok (.lastore, 1)) :
    ∃ T' h', Stand p l e R s m args below meth c T' (locs ++ [⟨a, j.toNatClampNeg⟩]) cells slots ∧ T'.heap = h' ∧ Wr h h' a j.toNatClampNeg (.long x) ∧ Arv Z h' a k .long z (vs.set i (.long x)) dv ∧ ∀ target, Steps p.tables e below (T'.setTop { g with pc := g.pc + 1, stack := rest }) target → Steps p.tables e below (T.setTop g) target := by
  obtain ⟨c', A, q1, S, M, H, F⟩ := V
  obtain ⟨T', h', X', e', W, st⟩ := stJ X hx hZ eT A (inb_of S hj) hg hs hd
  exact ⟨T', h', X', e', W, Arv.set A q1 S M H F rfl W i hi hl, st⟩
theorem naw (X : Stand p l e R s m args below meth c T locs cells slots) (hx : p.tables.exec = Jvm.exec) (hZ : Z.Warmed39 s.vm) {aty : ArrayType} (w : (Cond.arrayClass (newarray.typeOf aty)).before a0 Z = true) (eT : T.heap = h) (hg : g.method = m) (hd : decode c.code g.pc = .ok (.newarray aty, 2)) {n : Int32} (hs : g.stack = .int n :: rest)
    (hn : ¬ n < 0) (i : Nat) {cap : Nat} (hcap : n.toNatClampNeg ≤ cap) (hb : cap * 8 ≤ 536870912) (hc : cells + 1 ≤ R.cells) (hl : slots + cap ≤ R.slots) :
    ∃ T' h' cA, Stand p l e R s m args below meth c T' locs (cells + 1) (slots + cap) ∧ T'.heap = h' ∧ Ext h h' ∧ Arv Z h' h.size cA (newarray.typeOf aty) n (List.replicate i (defaultValue (newarray.typeOf aty))) (defaultValue (newarray.typeOf aty)) ∧
      ∀ target, Steps p.tables e below (T'.setTop { g with pc := g.pc + 2, stack := .ref h.size :: rest }) target → Steps p.tables e below (T.setTop g) target := by
  obtain ⟨T', h', cA, X', e', E, A, st⟩ := newP X hx hZ w eT hg hd hs hn hcap hb hc hl
  exact ⟨T', h', cA, X', e', E, (Arv.new A hn).pad (fun q => (pad_rep [] _ i q)), st⟩
end Own
end Jvm.RoadKit
namespace Jvm.Pilot.@@N@@
open Jvm Jvm.ClassFile Sem Op Lib Jvm.Free Jvm.Stand Jvm.LawKit Jvm.RoadKit Bundle Jvm.Pilot.@@N@@.Jvm.D
def own_u (b : Int32) : Int32 := if b < (0 : Int32) then b + (256 : Int32) else b
def own_le (b0 b1 b2 : Int32) : Int32 := (((b0 &&& (255 : Int32)) ||| ((b1 &&& (255 : Int32)) <<< ((8 : Int32) &&& 31))) ||| ((b2 &&& (255 : Int32)) <<< ((16 : Int32) &&& 31)))
theorem own_u_int (b : Int32) (h : -128 ≤ b.toInt ∧ b.toInt < 128) : (own_u b).toInt = b.toInt % 256 := by
  have k0 : (0 : Int32).toInt = 0 := rfl
  have k256 : (256 : Int32).toInt = 256 := rfl
  have e := c_iadd b 256
  have r := rng32 (b + 256)
  unfold own_u
  simp only [Int32.lt_iff_toInt_lt, k0]
  rw [k256] at e
  split <;> omega
theorem own_le_int (b0 b1 b2 : Int32) : (own_le b0 b1 b2).toInt = b0.toInt % 256 + 256 * (b1.toInt % 256) + 65536 * (b2.toInt % 256) := by
  have m0 := c_mask b0 255 8 (by decide) (by decide)
  have m1 := c_mask b1 255 8 (by decide) (by decide)
  have m2 := c_mask b2 255 8 (by decide) (by decide)
  unfold own_le
  generalize b0 &&& (255 : Int32) = x0 at *
  generalize b1 &&& (255 : Int32) = x1 at *
  generalize b2 &&& (255 : Int32) = x2 at *
  have s1 := c_ishl x1 8 8 (by decide)
  have s2 := c_ishl x2 16 16 (by decide)
  have r1 := rng32 (x1 <<< ((8 : Int32) &&& 31))
  have r2 := rng32 (x2 <<< ((16 : Int32) &&& 31))
  generalize x1 <<< ((8 : Int32) &&& 31) = y1 at *
  generalize x2 <<< ((16 : Int32) &&& 31) = y2 at *
  have o1 := c_or' x0 y1 8 (by decide) 256 (by decide) (by omega) (by omega) (by omega)
  have q1 := rng32 (x0 ||| y1)
  have o2 := c_or' (x0 ||| y1) y2 16 (by decide) 65536 (by decide) (by omega) (by omega) (by omega)
  have q2 := rng32 ((x0 ||| y1) ||| y2)
  omega
theorem own_nb (x : Int32) : nar .byte (x.toInt8.toInt32) = x.toInt8.toInt32 := by simp [nar]
theorem own_rem3 (x : Int32) : ((x &&& (2147483647 : Int32)) % (3 : Int32)) = 0 ∨ ((x &&& (2147483647 : Int32)) % (3 : Int32)) = 1 ∨ ((x &&& (2147483647 : Int32)) % (3 : Int32)) = 2 := by
  have h := c_and x 2147483647 (by decide)
  have g := (c_irem (x &&& 2147483647) 3 3 rfl).1 h.1
  have k0 : (0 : Int32).toInt = 0 := rfl
  have k1 : (1 : Int32).toInt = 1 := rfl
  have k2 : (2 : Int32).toInt = 2 := rfl
  simp only [← Int32.toInt_inj, k0, k1, k2]
  omega
theorem own_law (x0 x1 x2 : Int32) : own_le (nar .byte (x0.toInt8.toInt32)) (nar .byte (x1.toInt8.toInt32)) (nar .byte (x2.toInt8.toInt32)) = ((own_u (x0.toInt8.toInt32) + ((256 : Int32) * own_u (x1.toInt8.toInt32))) + ((65536 : Int32) * own_u (x2.toInt8.toInt32))) := by
  rw [own_nb, own_nb, own_nb]
  have b0 := c_i2b x0
  have b1 := c_i2b x1
  have b2 := c_i2b x2
  generalize x0.toInt8.toInt32 = y0 at *
  generalize x1.toInt8.toInt32 = y1 at *
  generalize x2.toInt8.toInt32 = y2 at *
  have e := own_le_int y0 y1 y2
  have u0 := own_u_int y0 b0.2
  have u1 := own_u_int y1 b1.2
  have u2 := own_u_int y2 b2.2
  generalize own_u y0 = v0 at *
  generalize own_u y1 = v1 at *
  generalize own_u y2 = v2 at *
  have p1 := c_imul 256 v1
  have p2 := c_imul 65536 v2
  have k1 : (256 : Int32).toInt = 256 := rfl
  have k2 : (65536 : Int32).toInt = 65536 := rfl
  rw [k1] at p1
  rw [k2] at p2
  have r1 := rng32 ((256 : Int32) * v1)
  have r2 := rng32 ((65536 : Int32) * v2)
  generalize (256 : Int32) * v1 = t1 at *
  generalize (65536 : Int32) * v2 = t2 at *
  have a1 := c_iadd v0 t1
  have a2 := c_iadd (v0 + t1) t2
  have r3 := rng32 (v0 + t1)
  have r4 := rng32 ((v0 + t1) + t2)
  rw [← Int32.toInt_inj]
  omega
theorem own_pos (b0 b1 b2 : Int32) : ¬ own_le b0 b1 b2 < (0 : Int32) ∧ ¬ (16777215 : Int32) < own_le b0 b1 b2 := by
  have e := own_le_int b0 b1 b2
  have k0 : (0 : Int32).toInt = 0 := rfl
  have k1 : (16777215 : Int32).toInt = 16777215 := rfl
  simp only [Int32.lt_iff_toInt_lt, k0, k1]
  omega
theorem own_pn0 : plainFor (⟨"com/example/tessera/tessera/LittleEndianGetUnsignedInt24PinLaw", "u", "(B)I"⟩ : MethodName) = true := by first | exact plainFor_of_name (by first | (simp [plainName, overriddenIn]; done) | decide +kernel) | decide +kernel
theorem own_pd0 : parseMethodDescriptor "(B)I" = some ⟨[.byte], some .int⟩ := by decide +kernel
theorem d1_0 : decode method_2_code 0 = .ok (.iload_n 0, 1) := by decide +kernel
theorem d1_1 : decode method_2_code 1 = .ok (.istore_n 1, 1) := by decide +kernel
theorem d1_2 : decode method_2_code 2 = .ok (.iload_n 1, 1) := by decide +kernel
theorem d1_3 : decode method_2_code 3 = .ok (.ifCond .ge 11, 3) := by decide +kernel
theorem d1_6 : decode method_2_code 6 = .ok (.iload_n 1, 1) := by decide +kernel
theorem d1_7 : decode method_2_code 7 = .ok (.sipush 256, 3) := by decide +kernel
theorem d1_10 : decode method_2_code 10 = .ok (.iadd, 1) := by decide +kernel
theorem d1_11 : decode method_2_code 11 = .ok (.goto 4, 3) := by decide +kernel
theorem d1_14 : decode method_2_code 14 = .ok (.iload_n 1, 1) := by decide +kernel
theorem d1_15 : decode method_2_code 15 = .ok (.ireturn, 1) := by decide +kernel
theorem own_ef1 (m : MethodId) (x0 : Int32) : entryFrame m #[(.int x0)] 2 = mkF m 0 #[.val (.int x0), .unset] [] := by first | (simp [entryFrame, mkF, argsToLocals, Value.category, maxLocals]; done) | rfl
def Qrm1 (Z : State) (p1 : Int32)  (h0 : Heap) (n0 : Nat) : Option Value → Heap → List Loc → Prop := fun v h L => v = some (.int (own_u p1)) ∧ Fr n0 L ∧ h = h0
set_option maxRecDepth 65536 in
set_option maxHeartbeats 40000000 in
theorem rm1 (l : Launch) (Z : State) (a0 : Array Value) (hw : ∀ d ∈ tables_1, d.before a0 Z = true) (ws : List Jvm.Cond) (p1 : Int32)  (h0 : Heap) (n0 : Nat) (Z0 : n0 ≤ h0.size)  :
    MetFree l (⟨"com/example/tessera/tessera/LittleEndianGetUnsignedInt24PinLaw", "u", "(B)I"⟩ : MethodName) (head1 (Jvm.Cond.code (⟨"com/example/tessera/tessera/LittleEndianGetUnsignedInt24PinLaw", "u", "(B)I"⟩ : MethodName) method_2_code 2 (some .int) :: ws) ({ frames := 0, cells := 0, slots := 0, locals := 0 } : Room)) (fun a U => a = #[(.int p1)] ∧ Z.Warmed39 U.vm ∧ U.heap = h0) (fun _ _ _ _ _ => True) (fun _ U o U' => ∃ v L, o = .returned v ∧ (Qrm1 Z p1  h0 n0) v U'.heap L ∧ FrameEnd U o U' L ({ frames := 0, cells := 0, slots := 0, locals := 0 } : Room).cells ({ frames := 0, cells := 0, slots := 0, locals := 0 } : Room).slots) := by
  refine MetFree.of_bodySF own_pn0 hisR ?_
  intro p e s m args below meth c s₁ Bd hml0 hP hK
  obtain ⟨rfl, hZ, hh⟩ := hP
  have hx := Bd.exec
  have hby := Bd.bytes
  have hlk := Bd.notSynchronized
  have hml : c.maxLocals = 2 := hml0
  have hown : s.vm.findClass "com/example/tessera/tessera/LittleEndianGetUnsignedInt24PinLaw" = some m.cls := findClass_of_methodNamed Bd.named
  have hnm := (name_of_methodNamed Bd.named Bd.method).1
  have X0 : Stand p l e ({ frames := 0, cells := 0, slots := 0, locals := 0 } : Room) s m #[(.int p1)] below meth c s₁ [] 0 0 := Stand.of_body Bd
  have e0 : s₁.heap = h0 := by rw [← hh, Bd.state]; rfl
  have N0 := Fr.nil n0
  refine Rch.entry (G := (EndQ (Qrm1 Z p1  h0 n0) s ({ frames := 0, cells := 0, slots := 0, locals := 0 } : Room).cells ({ frames := 0, cells := 0, slots := 0, locals := 0 } : Room).slots)) (own_ef1 m p1) ?_
  show Rch p e below _ s₁ (mkF m 0 #[.val (.int p1), .unset] [])
  refine Rch.go (fun _ q => XS.iloadN X0.here hx rfl (hb hby d1_0) rfl  q) ?_
  show Rch p e below _ s₁ (mkF m 1 #[.val (.int p1), .unset] [(.int p1)])
  refine Rch.go (fun _ q => XS.istoreN X0.here hx rfl (hb hby d1_1) rfl (l' := #[.val (.int p1), .val (.int p1)]) rfl q) ?_
  show Rch p e below _ s₁ (mkF m 2 #[.val (.int p1), .val (.int p1)] [])
  refine Rch.go (fun _ q => XS.iloadN X0.here hx rfl (hb hby d1_2) rfl  q) ?_
  show Rch p e below _ s₁ (mkF m 3 #[.val (.int p1), .val (.int p1)] [(.int p1)])
  by_cases hc3 : p1 < (0 : Int32)
  · skip
    refine Rch.go (fun _ q => XS.ifNo X0.here hx rfl (hb hby d1_3) rfl ((if0 _ _).trans (tlt hc3).2.1) q) ?_
    show Rch p e below _ s₁ (mkF m 6 #[.val (.int p1), .val (.int p1)] [])
    refine Rch.go (fun _ q => XS.iloadN X0.here hx rfl (hb hby d1_6) rfl  q) ?_
    show Rch p e below _ s₁ (mkF m 7 #[.val (.int p1), .val (.int p1)] [(.int p1)])
    refine Rch.go (fun _ q => XS.sipush X0.here hx rfl (hb hby d1_7) q) ?_
    show Rch p e below _ s₁ (mkF m 10 #[.val (.int p1), .val (.int p1)] [(.int (256 : Int32)), (.int p1)])
    refine Rch.go (fun _ q => XS.iadd X0.here hx rfl (hb hby d1_10) rfl q) ?_
    show Rch p e below _ s₁ (mkF m 11 #[.val (.int p1), .val (.int p1)] [(.int (p1 + (256 : Int32)))])
    refine Rch.go (fun _ q => XS.goto X0.here hx rfl (pc0 := 11) (pc' := 15) rfl (hb hby d1_11) (by decide) (by decide) q) ?_
    show Rch p e below _ s₁ (mkF m 15 #[.val (.int p1), .val (.int p1)] [(.int (p1 + (256 : Int32)))])
    refine Rch.retI X0 hx hlk Bd.returns (hb hby d1_15) (by decide) (by decide) ?_
    unfold Qrm1
    exact ⟨by simp only [own_u, hc3, if_true, if_false], N0, e0⟩
  · skip
    refine Rch.go (fun _ q => XS.ifYes X0.here hx rfl (pc0 := 3) (pc' := 14) rfl (hb hby d1_3) rfl ((if0 _ _).trans (flt hc3).2.1) (by decide) (by decide) q) ?_
    show Rch p e below _ s₁ (mkF m 14 #[.val (.int p1), .val (.int p1)] [])
    refine Rch.go (fun _ q => XS.iloadN X0.here hx rfl (hb hby d1_14) rfl  q) ?_
    show Rch p e below _ s₁ (mkF m 15 #[.val (.int p1), .val (.int p1)] [(.int p1)])
    refine Rch.retI X0 hx hlk Bd.returns (hb hby d1_15) (by decide) (by decide) ?_
    unfold Qrm1
    exact ⟨by simp only [own_u, hc3, if_true, if_false], N0, e0⟩
theorem own_pn1 : plainFor (⟨"com/example/tessera/tessera/LittleEndian", "getUnsignedInt24", "([BI)I"⟩ : MethodName) = true := by first | exact plainFor_of_name (by first | (simp [plainName, overriddenIn]; done) | decide +kernel) | decide +kernel
theorem own_pd1 : parseMethodDescriptor "([BI)I" = some ⟨[(.array .byte), .int], some .int⟩ := by decide +kernel
theorem d2_0 : decode prog_34_method_3_code 0 = .ok (.aload_n 0, 1) := by decide +kernel
theorem d2_1 : decode prog_34_method_3_code 1 = .ok (.iload_n 1, 1) := by decide +kernel
theorem d2_2 : decode prog_34_method_3_code 2 = .ok (.baload, 1) := by decide +kernel
theorem d2_3 : decode prog_34_method_3_code 3 = .ok (.sipush 255, 3) := by decide +kernel
theorem d2_6 : decode prog_34_method_3_code 6 = .ok (.iand, 1) := by decide +kernel
theorem d2_7 : decode prog_34_method_3_code 7 = .ok (.aload_n 0, 1) := by decide +kernel
theorem d2_8 : decode prog_34_method_3_code 8 = .ok (.iload_n 1, 1) := by decide +kernel
theorem d2_9 : decode prog_34_method_3_code 9 = .ok (.iconst 1, 1) := by decide +kernel
theorem d2_10 : decode prog_34_method_3_code 10 = .ok (.iadd, 1) := by decide +kernel
theorem d2_11 : decode prog_34_method_3_code 11 = .ok (.baload, 1) := by decide +kernel
theorem d2_12 : decode prog_34_method_3_code 12 = .ok (.sipush 255, 3) := by decide +kernel
theorem d2_15 : decode prog_34_method_3_code 15 = .ok (.iand, 1) := by decide +kernel
theorem d2_16 : decode prog_34_method_3_code 16 = .ok (.bipush 8, 2) := by decide +kernel
theorem d2_18 : decode prog_34_method_3_code 18 = .ok (.ishl, 1) := by decide +kernel
theorem d2_19 : decode prog_34_method_3_code 19 = .ok (.ior, 1) := by decide +kernel
theorem d2_20 : decode prog_34_method_3_code 20 = .ok (.aload_n 0, 1) := by decide +kernel
theorem d2_21 : decode prog_34_method_3_code 21 = .ok (.iload_n 1, 1) := by decide +kernel
theorem d2_22 : decode prog_34_method_3_code 22 = .ok (.iconst 2, 1) := by decide +kernel
theorem d2_23 : decode prog_34_method_3_code 23 = .ok (.iadd, 1) := by decide +kernel
theorem d2_24 : decode prog_34_method_3_code 24 = .ok (.baload, 1) := by decide +kernel
theorem d2_25 : decode prog_34_method_3_code 25 = .ok (.sipush 255, 3) := by decide +kernel
theorem d2_28 : decode prog_34_method_3_code 28 = .ok (.iand, 1) := by decide +kernel
theorem d2_29 : decode prog_34_method_3_code 29 = .ok (.bipush 16, 2) := by decide +kernel
theorem d2_31 : decode prog_34_method_3_code 31 = .ok (.ishl, 1) := by decide +kernel
theorem d2_32 : decode prog_34_method_3_code 32 = .ok (.ior, 1) := by decide +kernel
theorem d2_33 : decode prog_34_method_3_code 33 = .ok (.ireturn, 1) := by decide +kernel
theorem own_ef2 (m : MethodId) (x0 : Addr) (x1 : Int32) : entryFrame m #[(.ref x0), (.int x1)] 2 = mkF m 0 #[.val (.ref x0), .val (.int x1)] [] := by first | (simp [entryFrame, mkF, argsToLocals, Value.category, maxLocals]; done) | rfl
def Qrm2 (Z : State) (a1 : Addr) (p2 : Int32) (k1 : ClassId) (zz : Int32) (vs : List Value) (dv : Value) (b0 b1 b2 : Int32) (h0 : Heap) (n0 : Nat) : Option Value → Heap → List Loc → Prop := fun v h L => v = some (.int (own_le b0 b1 b2)) ∧ Fr n0 L ∧ h = h0
set_option maxRecDepth 65536 in
set_option maxHeartbeats 40000000 in
theorem rm2 (l : Launch) (Z : State) (a0 : Array Value) (hw : ∀ d ∈ tables_1, d.before a0 Z = true) (ws : List Jvm.Cond) (a1 : Addr) (p2 : Int32) (k1 : ClassId) (zz : Int32) (vs : List Value) (dv : Value) (b0 b1 b2 : Int32) (h0 : Heap) (n0 : Nat) (Z0 : n0 ≤ h0.size) (V1 : Arv Z h0 a1 k1 .byte zz vs dv) (j0 : ¬ p2 < 0 ∧ p2 < zz) (v0 : vs.getD p2.toNatClampNeg dv = .int b0) (j1 : ¬ (p2 + (1 : Int32)) < 0 ∧ (p2 + (1 : Int32)) < zz) (v1 : vs.getD (p2 + (1 : Int32)).toNatClampNeg dv = .int b1) (j2 : ¬ (p2 + (2 : Int32)) < 0 ∧ (p2 + (2 : Int32)) < zz) (v2 : vs.getD (p2 + (2 : Int32)).toNatClampNeg dv = .int b2) :
    MetFree l (⟨"com/example/tessera/tessera/LittleEndian", "getUnsignedInt24", "([BI)I"⟩ : MethodName) (head1 (Jvm.Cond.code (⟨"com/example/tessera/tessera/LittleEndian", "getUnsignedInt24", "([BI)I"⟩ : MethodName) prog_34_method_3_code 2 (some .int) :: ws) ({ frames := 0, cells := 0, slots := 0, locals := 0 } : Room)) (fun a U => a = #[(.ref a1), (.int p2)] ∧ Z.Warmed39 U.vm ∧ U.heap = h0) (fun _ _ _ _ _ => True) (fun _ U o U' => ∃ v L, o = .returned v ∧ (Qrm2 Z a1 p2 k1 zz vs dv b0 b1 b2 h0 n0) v U'.heap L ∧ FrameEnd U o U' L ({ frames := 0, cells := 0, slots := 0, locals := 0 } : Room).cells ({ frames := 0, cells := 0, slots := 0, locals := 0 } : Room).slots) := by
  refine MetFree.of_bodySF own_pn1 hisR ?_
  intro p e s m args below meth c s₁ Bd hml0 hP hK
  obtain ⟨rfl, hZ, hh⟩ := hP
  have hx := Bd.exec
  have hby := Bd.bytes
  have hlk := Bd.notSynchronized
  have hml : c.maxLocals = 2 := hml0
  have hown : s.vm.findClass "com/example/tessera/tessera/LittleEndian" = some m.cls := findClass_of_methodNamed Bd.named
  have hnm := (name_of_methodNamed Bd.named Bd.method).1
  have X0 : Stand p l e ({ frames := 0, cells := 0, slots := 0, locals := 0 } : Room) s m #[(.ref a1), (.int p2)] below meth c s₁ [] 0 0 := Stand.of_body Bd
  have e0 : s₁.heap = h0 := by rw [← hh, Bd.state]; rfl
  have N0 := Fr.nil n0
  refine Rch.entry (G := (EndQ (Qrm2 Z a1 p2 k1 zz vs dv b0 b1 b2 h0 n0) s ({ frames := 0, cells := 0, slots := 0, locals := 0 } : Room).cells ({ frames := 0, cells := 0, slots := 0, locals := 0 } : Room).slots)) (own_ef2 m a1 p2) ?_
  show Rch p e below _ s₁ (mkF m 0 #[.val (.ref a1), .val (.int p2)] [])
  refine Rch.go (fun _ q => XS.aloadN X0.here hx rfl (hb hby d2_0) rfl rfl q) ?_
  show Rch p e below _ s₁ (mkF m 1 #[.val (.ref a1), .val (.int p2)] [(.ref a1)])
  refine Rch.go (fun _ q => XS.iloadN X0.here hx rfl (hb hby d2_1) rfl  q) ?_
  show Rch p e below _ s₁ (mkF m 2 #[.val (.ref a1), .val (.int p2)] [(.int p2), (.ref a1)])
  refine Rch.go (fun _ q => ldB X0 hx hZ e0 V1 (v := (.int b0)) j0 v0 (g := (mkF m 2 #[.val (.ref a1), .val (.int p2)] [(.int p2), (.ref a1)])) rfl rfl (hb hby d2_2) _ q) ?_
  show Rch p e below _ s₁ (mkF m 3 #[.val (.ref a1), .val (.int p2)] [(.int b0)])
  refine Rch.go (fun _ q => XS.sipush X0.here hx rfl (hb hby d2_3) q) ?_
  show Rch p e below _ s₁ (mkF m 6 #[.val (.ref a1), .val (.int p2)] [(.int (255 : Int32)), (.int b0)])
  refine Rch.go (fun _ q => XS.iand X0.here hx rfl (hb hby d2_6) rfl q) ?_
  show Rch p e below _ s₁ (mkF m 7 #[.val (.ref a1), .val (.int p2)] [(.int (b0 &&& (255 : Int32)))])
  refine Rch.go (fun _ q => XS.aloadN X0.here hx rfl (hb hby d2_7) rfl rfl q) ?_
  show Rch p e below _ s₁ (mkF m 8 #[.val (.ref a1), .val (.int p2)] [(.ref a1), (.int (b0 &&& (255 : Int32)))])
  refine Rch.go (fun _ q => XS.iloadN X0.here hx rfl (hb hby d2_8) rfl  q) ?_
  show Rch p e below _ s₁ (mkF m 9 #[.val (.ref a1), .val (.int p2)] [(.int p2), (.ref a1), (.int (b0 &&& (255 : Int32)))])
  refine Rch.go (fun _ q => XS.iconst X0.here hx rfl (hb hby d2_9) q) ?_
  show Rch p e below _ s₁ (mkF m 10 #[.val (.ref a1), .val (.int p2)] [(.int (1 : Int32)), (.int p2), (.ref a1), (.int (b0 &&& (255 : Int32)))])
  refine Rch.go (fun _ q => XS.iadd X0.here hx rfl (hb hby d2_10) rfl q) ?_
  show Rch p e below _ s₁ (mkF m 11 #[.val (.ref a1), .val (.int p2)] [(.int (p2 + (1 : Int32))), (.ref a1), (.int (b0 &&& (255 : Int32)))])
  refine Rch.go (fun _ q => ldB X0 hx hZ e0 V1 (v := (.int b1)) j1 v1 (g := (mkF m 11 #[.val (.ref a1), .val (.int p2)] [(.int (p2 + (1 : Int32))), (.ref a1), (.int (b0 &&& (255 : Int32)))])) rfl rfl (hb hby d2_11) _ q) ?_
  show Rch p e below _ s₁ (mkF m 12 #[.val (.ref a1), .val (.int p2)] [(.int b1), (.int (b0 &&& (255 : Int32)))])
  refine Rch.go (fun _ q => XS.sipush X0.here hx rfl (hb hby d2_12) q) ?_
  show Rch p e below _ s₁ (mkF m 15 #[.val (.ref a1), .val (.int p2)] [(.int (255 : Int32)), (.int b1), (.int (b0 &&& (255 : Int32)))])
  refine Rch.go (fun _ q => XS.iand X0.here hx rfl (hb hby d2_15) rfl q) ?_
  show Rch p e below _ s₁ (mkF m 16 #[.val (.ref a1), .val (.int p2)] [(.int (b1 &&& (255 : Int32))), (.int (b0 &&& (255 : Int32)))])
  refine Rch.go (fun _ q => XS.bipush X0.here hx rfl (hb hby d2_16) q) ?_
  show Rch p e below _ s₁ (mkF m 18 #[.val (.ref a1), .val (.int p2)] [(.int (8 : Int32)), (.int (b1 &&& (255 : Int32))), (.int (b0 &&& (255 : Int32)))])
  refine Rch.go (fun _ q => XS.ishl X0.here hx rfl (hb hby d2_18) rfl q) ?_
  show Rch p e below _ s₁ (mkF m 19 #[.val (.ref a1), .val (.int p2)] [(.int ((b1 &&& (255 : Int32)) <<< ((8 : Int32) &&& 31))), (.int (b0 &&& (255 : Int32)))])
  refine Rch.go (fun _ q => XS.ior X0.here hx rfl (hb hby d2_19) rfl q) ?_
  show Rch p e below _ s₁ (mkF m 20 #[.val (.ref a1), .val (.int p2)] [(.int ((b0 &&& (255 : Int32)) ||| ((b1 &&& (255 : Int32)) <<< ((8 : Int32) &&& 31))))])
  refine Rch.go (fun _ q => XS.aloadN X0.here hx rfl (hb hby d2_20) rfl rfl q) ?_
  show Rch p e below _ s₁ (mkF m 21 #[.val (.ref a1), .val (.int p2)] [(.ref a1), (.int ((b0 &&& (255 : Int32)) ||| ((b1 &&& (255 : Int32)) <<< ((8 : Int32) &&& 31))))])
  refine Rch.go (fun _ q => XS.iloadN X0.here hx rfl (hb hby d2_21) rfl  q) ?_
  show Rch p e below _ s₁ (mkF m 22 #[.val (.ref a1), .val (.int p2)] [(.int p2), (.ref a1), (.int ((b0 &&& (255 : Int32)) ||| ((b1 &&& (255 : Int32)) <<< ((8 : Int32) &&& 31))))])
  refine Rch.go (fun _ q => XS.iconst X0.here hx rfl (hb hby d2_22) q) ?_
  show Rch p e below _ s₁ (mkF m 23 #[.val (.ref a1), .val (.int p2)] [(.int (2 : Int32)), (.int p2), (.ref a1), (.int ((b0 &&& (255 : Int32)) ||| ((b1 &&& (255 : Int32)) <<< ((8 : Int32) &&& 31))))])
  refine Rch.go (fun _ q => XS.iadd X0.here hx rfl (hb hby d2_23) rfl q) ?_
  show Rch p e below _ s₁ (mkF m 24 #[.val (.ref a1), .val (.int p2)] [(.int (p2 + (2 : Int32))), (.ref a1), (.int ((b0 &&& (255 : Int32)) ||| ((b1 &&& (255 : Int32)) <<< ((8 : Int32) &&& 31))))])
  refine Rch.go (fun _ q => ldB X0 hx hZ e0 V1 (v := (.int b2)) j2 v2 (g := (mkF m 24 #[.val (.ref a1), .val (.int p2)] [(.int (p2 + (2 : Int32))), (.ref a1), (.int ((b0 &&& (255 : Int32)) ||| ((b1 &&& (255 : Int32)) <<< ((8 : Int32) &&& 31))))])) rfl rfl (hb hby d2_24) _ q) ?_
  show Rch p e below _ s₁ (mkF m 25 #[.val (.ref a1), .val (.int p2)] [(.int b2), (.int ((b0 &&& (255 : Int32)) ||| ((b1 &&& (255 : Int32)) <<< ((8 : Int32) &&& 31))))])
  refine Rch.go (fun _ q => XS.sipush X0.here hx rfl (hb hby d2_25) q) ?_
  show Rch p e below _ s₁ (mkF m 28 #[.val (.ref a1), .val (.int p2)] [(.int (255 : Int32)), (.int b2), (.int ((b0 &&& (255 : Int32)) ||| ((b1 &&& (255 : Int32)) <<< ((8 : Int32) &&& 31))))])
  refine Rch.go (fun _ q => XS.iand X0.here hx rfl (hb hby d2_28) rfl q) ?_
  show Rch p e below _ s₁ (mkF m 29 #[.val (.ref a1), .val (.int p2)] [(.int (b2 &&& (255 : Int32))), (.int ((b0 &&& (255 : Int32)) ||| ((b1 &&& (255 : Int32)) <<< ((8 : Int32) &&& 31))))])
  refine Rch.go (fun _ q => XS.bipush X0.here hx rfl (hb hby d2_29) q) ?_
  show Rch p e below _ s₁ (mkF m 31 #[.val (.ref a1), .val (.int p2)] [(.int (16 : Int32)), (.int (b2 &&& (255 : Int32))), (.int ((b0 &&& (255 : Int32)) ||| ((b1 &&& (255 : Int32)) <<< ((8 : Int32) &&& 31))))])
  refine Rch.go (fun _ q => XS.ishl X0.here hx rfl (hb hby d2_31) rfl q) ?_
  show Rch p e below _ s₁ (mkF m 32 #[.val (.ref a1), .val (.int p2)] [(.int ((b2 &&& (255 : Int32)) <<< ((16 : Int32) &&& 31))), (.int ((b0 &&& (255 : Int32)) ||| ((b1 &&& (255 : Int32)) <<< ((8 : Int32) &&& 31))))])
  refine Rch.go (fun _ q => XS.ior X0.here hx rfl (hb hby d2_32) rfl q) ?_
  show Rch p e below _ s₁ (mkF m 33 #[.val (.ref a1), .val (.int p2)] [(.int (((b0 &&& (255 : Int32)) ||| ((b1 &&& (255 : Int32)) <<< ((8 : Int32) &&& 31))) ||| ((b2 &&& (255 : Int32)) <<< ((16 : Int32) &&& 31))))])
  refine Rch.retI X0 hx hlk Bd.returns (hb hby d2_33) (by decide) (by decide) ?_
  unfold Qrm2
  exact ⟨rfl, N0, e0⟩
theorem own_pn2 : plainFor x = true := by first | exact plainFor_of_name (by first | (simp [plainName, overriddenIn]; done) | decide +kernel) | decide +kernel
theorem own_pd2 : parseMethodDescriptor "(IIIII)Z" = some ⟨[.int, .int, .int, .int, .int], some .boolean⟩ := by decide +kernel
theorem own_ef3 (m : MethodId) (x0 : Int32) (x1 : Int32) (x2 : Int32) (x3 : Int32) (x4 : Int32) : entryFrame m #[(.int x0), (.int x1), (.int x2), (.int x3), (.int x4)] maxLocals = mkF m 0 #[.val (.int x0), .val (.int x1), .val (.int x2), .val (.int x3), .val (.int x4), .unset, .unset, .unset, .unset] [] := by first | (simp [entryFrame, mkF, argsToLocals, Value.category, maxLocals]; done) | rfl
def Qrm0 (Z : State) (p1 : Int32) (p2 : Int32) (p3 : Int32) (p4 : Int32) (p5 : Int32)  (h0 : Heap) (n0 : Nat) : Option Value → Heap → List Loc → Prop := fun v h L => v = some (.int 1) ∧ Fr n0 L
set_option maxRecDepth 65536 in
set_option maxHeartbeats 40000000 in
theorem rm0 (l : Launch) (Z : State) (a0 : Array Value) (hw : ∀ d ∈ tables_1, d.before a0 Z = true) (ws : List Jvm.Cond) (p1 : Int32) (p2 : Int32) (p3 : Int32) (p4 : Int32) (p5 : Int32)  (h0 : Heap) (n0 : Nat) (Z0 : n0 ≤ h0.size)  :
    MetFree l x (head1 (Jvm.Cond.code x code maxLocals ret :: ws) room_1) (fun a U => a = #[(.int p1), (.int p2), (.int p3), (.int p4), (.int p5)] ∧ Z.Warmed39 U.vm ∧ U.heap = h0) (fun _ _ _ _ _ => True) (fun _ U o U' => ∃ v L, o = .returned v ∧ (Qrm0 Z p1 p2 p3 p4 p5  h0 n0) v U'.heap L ∧ FrameEnd U o U' L room_1.cells room_1.slots) := by
  refine MetFree.of_bodySF own_pn2 hisR ?_
  intro p e s m args below meth c s₁ Bd hml0 hP hK
  obtain ⟨rfl, hZ, hh⟩ := hP
  have hx := Bd.exec
  have hby := Bd.bytes
  have hlk := Bd.notSynchronized
  have hml : c.maxLocals = 9 := hml0
  have hown : s.vm.findClass "com/example/tessera/tessera/LittleEndianGetUnsignedInt24PinLaw" = some m.cls := findClass_of_methodNamed Bd.named
  have hnm := (name_of_methodNamed Bd.named Bd.method).1
  have X0 : Stand p l e room_1 s m #[(.int p1), (.int p2), (.int p3), (.int p4), (.int p5)] below meth c s₁ [] 0 0 := Stand.of_body Bd
  have e0 : s₁.heap = h0 := by rw [← hh, Bd.state]; rfl
  have N0 := Fr.nil n0
  refine Rch.entry (G := (EndQ (Qrm0 Z p1 p2 p3 p4 p5  h0 n0) s room_1.cells room_1.slots)) (own_ef3 m p1 p2 p3 p4 p5) ?_
  have hbool : ∀ x : Int32, nar .boolean x = x &&& 1 := fun _ => rfl
  show Rch p e below _ s₁ (mkF m 0 #[.val (.int p1), .val (.int p2), .val (.int p3), .val (.int p4), .val (.int p5), .unset, .unset, .unset, .unset] [])
  refine Rch.go (fun _ q => XS.iload X0.here hx rfl (hb hby at_0) rfl  q) ?_
  show Rch p e below _ s₁ (mkF m 2 #[.val (.int p1), .val (.int p2), .val (.int p3), .val (.int p4), .val (.int p5), .unset, .unset, .unset, .unset] [(.int p5)])
  refine Rch.go (fun _ q => X0.ldcI hx (own := "com/example/tessera/tessera/LittleEndianGetUnsignedInt24PinLaw") hown (mvT hZ (hw _ (List.mem_of_getElem? (i := 0) rfl))) rfl (hb hby at_2) q) ?_
  show Rch p e below _ s₁ (mkF m 4 #[.val (.int p1), .val (.int p2), .val (.int p3), .val (.int p4), .val (.int p5), .unset, .unset, .unset, .unset] [(.int (2147483647 : Int32)), (.int p5)])
  refine Rch.go (fun _ q => XS.iand X0.here hx rfl (hb hby at_4) rfl q) ?_
  show Rch p e below _ s₁ (mkF m 5 #[.val (.int p1), .val (.int p2), .val (.int p3), .val (.int p4), .val (.int p5), .unset, .unset, .unset, .unset] [(.int (p5 &&& (2147483647 : Int32)))])
  refine Rch.go (fun _ q => XS.iconst X0.here hx rfl (hb hby at_5) q) ?_
  show Rch p e below _ s₁ (mkF m 6 #[.val (.int p1), .val (.int p2), .val (.int p3), .val (.int p4), .val (.int p5), .unset, .unset, .unset, .unset] [(.int (3 : Int32)), (.int (p5 &&& (2147483647 : Int32)))])
  refine Rch.go (fun _ q => iremM X0 hx rfl (hb hby at_6) rfl (by decide) q) ?_
  show Rch p e below _ s₁ (mkF m 7 #[.val (.int p1), .val (.int p2), .val (.int p3), .val (.int p4), .val (.int p5), .unset, .unset, .unset, .unset] [(.int ((p5 &&& (2147483647 : Int32)) % (3 : Int32)))])
  refine Rch.go (fun _ q => XS.istore X0.here hx rfl (hb hby at_7) rfl (l' := #[.val (.int p1), .val (.int p2), .val (.int p3), .val (.int p4), .val (.int p5), .val (.int ((p5 &&& (2147483647 : Int32)) % (3 : Int32))), .unset, .unset, .unset]) rfl q) ?_
  show Rch p e below _ s₁ (mkF m 9 #[.val (.int p1), .val (.int p2), .val (.int p3), .val (.int p4), .val (.int p5), .val (.int ((p5 &&& (2147483647 : Int32)) % (3 : Int32))), .unset, .unset, .unset] [])
  rcases own_rem3 p5 with hr | hr | hr
  · rw [hr]
    show Rch p e below _ s₁ (mkF m 9 #[.val (.int p1), .val (.int p2), .val (.int p3), .val (.int p4), .val (.int p5), .val (.int (0 : Int32)), .unset, .unset, .unset] [])
    refine Rch.go (fun _ q => XS.iconst X0.here hx rfl (hb hby at_9) q) ?_
    show Rch p e below _ s₁ (mkF m 10 #[.val (.int p1), .val (.int p2), .val (.int p3), .val (.int p4), .val (.int p5), .val (.int (0 : Int32)), .unset, .unset, .unset] [(.int (5 : Int32))])
    obtain ⟨T101, h101, kk_aa, X101, e101, E101, V101, st101⟩ := naw X0 hx hZ (hw _ (List.mem_of_getElem? (i := 1) rfl)) e0 (g := (mkF m 10 #[.val (.int p1), .val (.int p2), .val (.int p3), .val (.int p4), .val (.int p5), .val (.int (0 : Int32)), .unset, .unset, .unset] [(.int (5 : Int32))])) rfl (hb hby at_10) rfl (by decide) 5 (cap := 5) (by decide) (by decide) (by decide) (by decide)
    obtain ⟨aa, g101⟩ : ∃ q, q = Array.size h0 := ⟨_, rfl⟩
    rw [← g101] at V101 st101
    have V_aa_101 : Arv Z h101 aa kk_aa .byte 5 [(.int 0), (.int 0), (.int 0), (.int 0), (.int 0)] (.int 0) := V101
    have le_aa : n0 ≤ aa := by rw [g101]; exact Z0
    have Z101 : n0 ≤ h101.size := Nat.le_trans Z0 E101.1
    refine Rch.go st101 ?_
    show Rch p e below _ T101 (mkF m 12 #[.val (.int p1), .val (.int p2), .val (.int p3), .val (.int p4), .val (.int p5), .val (.int (0 : Int32)), .unset, .unset, .unset] [(.ref aa)])
    refine Rch.go (fun _ q => XS.astore X101.here hx rfl (hb hby at_12) rfl rfl (l' := #[.val (.int p1), .val (.int p2), .val (.int p3), .val (.int p4), .val (.int p5), .val (.int (0 : Int32)), .val (.ref aa), .unset, .unset]) rfl q) ?_
    show Rch p e below _ T101 (mkF m 14 #[.val (.int p1), .val (.int p2), .val (.int p3), .val (.int p4), .val (.int p5), .val (.int (0 : Int32)), .val (.ref aa), .unset, .unset] [])
    refine Rch.go (fun _ q => XS.aload X101.here hx rfl (hb hby at_14) rfl rfl q) ?_
    show Rch p e below _ T101 (mkF m 16 #[.val (.int p1), .val (.int p2), .val (.int p3), .val (.int p4), .val (.int p5), .val (.int (0 : Int32)), .val (.ref aa), .unset, .unset] [(.ref aa)])
    refine Rch.go (fun _ q => XS.iconst X101.here hx rfl (hb hby at_16) q) ?_
    show Rch p e below _ T101 (mkF m 17 #[.val (.int p1), .val (.int p2), .val (.int p3), .val (.int p4), .val (.int p5), .val (.int (0 : Int32)), .val (.ref aa), .unset, .unset] [(.int (0 : Int32)), (.ref aa)])
    refine Rch.go (fun _ q => XS.iloadN X101.here hx rfl (hb hby at_17) rfl  q) ?_
    show Rch p e below _ T101 (mkF m 18 #[.val (.int p1), .val (.int p2), .val (.int p3), .val (.int p4), .val (.int p5), .val (.int (0 : Int32)), .val (.ref aa), .unset, .unset] [(.int p4), (.int (0 : Int32)), (.ref aa)])
    refine Rch.go (fun _ q => XS.i2b X101.here hx rfl (hb hby at_18) rfl q) ?_
    show Rch p e below _ T101 (mkF m 19 #[.val (.int p1), .val (.int p2), .val (.int p3), .val (.int p4), .val (.int p5), .val (.int (0 : Int32)), .val (.ref aa), .unset, .unset] [(.int (p4.toInt8.toInt32)), (.int (0 : Int32)), (.ref aa)])
    obtain ⟨T102, h102, X102, e102, W102, V102, st102⟩ := sdB X101 hx hZ e101 V_aa_101 (j := (0 : Int32)) (by decide) 0 (by decide) (Nat.le_of_ble_eq_true rfl) (g := (mkF m 19 #[.val (.int p1), .val (.int p2), .val (.int p3), .val (.int p4), .val (.int p5), .val (.int (0 : Int32)), .val (.ref aa), .unset, .unset] [(.int (p4.toInt8.toInt32)), (.int (0 : Int32)), (.ref aa)])) rfl rfl (hb hby at_19)
    have V_aa_102 : Arv Z h102 aa kk_aa .byte 5 [(.int (nar .byte (p4.toInt8.toInt32))), (.int 0), (.int 0), (.int 0), (.int 0)] (.int 0) := V102
    have N102 := Fr.snoc X102 N0 le_aa
    have Z102 : n0 ≤ h102.size := by rw [W102.size]; exact Z101
    refine Rch.go st102 ?_
    show Rch p e below _ T102 (mkF m 20 #[.val (.int p1), .val (.int p2), .val (.int p3), .val (.int p4), .val (.int p5), .val (.int (0 : Int32)), .val (.ref aa), .unset, .unset] [])
    refine Rch.go (fun _ q => XS.aload X102.here hx rfl (hb hby at_20) rfl rfl q) ?_
    show Rch p e below _ T102 (mkF m 22 #[.val (.int p1), .val (.int p2), .val (.int p3), .val (.int p4), .val (.int p5), .val (.int (0 : Int32)), .val (.ref aa), .unset, .unset] [(.ref aa)])
    refine Rch.go (fun _ q => XS.iconst X102.here hx rfl (hb hby at_22) q) ?_
    show Rch p e below _ T102 (mkF m 23 #[.val (.int p1), .val (.int p2), .val (.int p3), .val (.int p4), .val (.int p5), .val (.int (0 : Int32)), .val (.ref aa), .unset, .unset] [(.int (1 : Int32)), (.ref aa)])
    refine Rch.go (fun _ q => XS.iloadN X102.here hx rfl (hb hby at_23) rfl  q) ?_
    show Rch p e below _ T102 (mkF m 24 #[.val (.int p1), .val (.int p2), .val (.int p3), .val (.int p4), .val (.int p5), .val (.int (0 : Int32)), .val (.ref aa), .unset, .unset] [(.int p4), (.int (1 : Int32)), (.ref aa)])
    refine Rch.go (fun _ q => XS.bipush X102.here hx rfl (hb hby at_24) q) ?_
    show Rch p e below _ T102 (mkF m 26 #[.val (.int p1), .val (.int p2), .val (.int p3), .val (.int p4), .val (.int p5), .val (.int (0 : Int32)), .val (.ref aa), .unset, .unset] [(.int (8 : Int32)), (.int p4), (.int (1 : Int32)), (.ref aa)])
    refine Rch.go (fun _ q => XS.iushr X102.here hx rfl (hb hby at_26) rfl q) ?_
    show Rch p e below _ T102 (mkF m 27 #[.val (.int p1), .val (.int p2), .val (.int p3), .val (.int p4), .val (.int p5), .val (.int (0 : Int32)), .val (.ref aa), .unset, .unset] [(.int ((p4.toUInt32 >>> ((8 : Int32) &&& 31).toUInt32).toInt32)), (.int (1 : Int32)), (.ref aa)])
    refine Rch.go (fun _ q => XS.i2b X102.here hx rfl (hb hby at_27) rfl q) ?_
    show Rch p e below _ T102 (mkF m 28 #[.val (.int p1), .val (.int p2), .val (.int p3), .val (.int p4), .val (.int p5), .val (.int (0 : Int32)), .val (.ref aa), .unset, .unset] [(.int (((p4.toUInt32 >>> ((8 : Int32) &&& 31).toUInt32).toInt32).toInt8.toInt32)), (.int (1 : Int32)), (.ref aa)])
    obtain ⟨T103, h103, X103, e103, W103, V103, st103⟩ := sdB X102 hx hZ e102 V_aa_102 (j := (1 : Int32)) (by decide) 1 (by decide) (Nat.le_of_ble_eq_true rfl) (g := (mkF m 28 #[.val (.int p1), .val (.int p2), .val (.int p3), .val (.int p4), .val (.int p5), .val (.int (0 : Int32)), .val (.ref aa), .unset, .unset] [(.int (((p4.toUInt32 >>> ((8 : Int32) &&& 31).toUInt32).toInt32).toInt8.toInt32)), (.int (1 : Int32)), (.ref aa)])) rfl rfl (hb hby at_28)
    have V_aa_103 : Arv Z h103 aa kk_aa .byte 5 [(.int (nar .byte (p4.toInt8.toInt32))), (.int (nar .byte (((p4.toUInt32 >>> ((8 : Int32) &&& 31).toUInt32).toInt32).toInt8.toInt32))), (.int 0), (.int 0), (.int 0)] (.int 0) := V103
    have N103 := Fr.snoc X103 N102 le_aa
    have Z103 : n0 ≤ h103.size := by rw [W103.size]; exact Z102
    refine Rch.go st103 ?_
    show Rch p e below _ T103 (mkF m 29 #[.val (.int p1), .val (.int p2), .val (.int p3), .val (.int p4), .val (.int p5), .val (.int (0 : Int32)), .val (.ref aa), .unset, .unset] [])
    refine Rch.go (fun _ q => XS.aload X103.here hx rfl (hb hby at_29) rfl rfl q) ?_
    show Rch p e below _ T103 (mkF m 31 #[.val (.int p1), .val (.int p2), .val (.int p3), .val (.int p4), .val (.int p5), .val (.int (0 : Int32)), .val (.ref aa), .unset, .unset] [(.ref aa)])
    refine Rch.go (fun _ q => XS.iconst X103.here hx rfl (hb hby at_31) q) ?_
    show Rch p e below _ T103 (mkF m 32 #[.val (.int p1), .val (.int p2), .val (.int p3), .val (.int p4), .val (.int p5), .val (.int (0 : Int32)), .val (.ref aa), .unset, .unset] [(.int (2 : Int32)), (.ref aa)])
    refine Rch.go (fun _ q => XS.iloadN X103.here hx rfl (hb hby at_32) rfl  q) ?_
    show Rch p e below _ T103 (mkF m 33 #[.val (.int p1), .val (.int p2), .val (.int p3), .val (.int p4), .val (.int p5), .val (.int (0 : Int32)), .val (.ref aa), .unset, .unset] [(.int p4), (.int (2 : Int32)), (.ref aa)])
    refine Rch.go (fun _ q => XS.bipush X103.here hx rfl (hb hby at_33) q) ?_
    show Rch p e below _ T103 (mkF m 35 #[.val (.int p1), .val (.int p2), .val (.int p3), .val (.int p4), .val (.int p5), .val (.int (0 : Int32)), .val (.ref aa), .unset, .unset] [(.int (16 : Int32)), (.int p4), (.int (2 : Int32)), (.ref aa)])
    refine Rch.go (fun _ q => XS.iushr X103.here hx rfl (hb hby at_35) rfl q) ?_
    show Rch p e below _ T103 (mkF m 36 #[.val (.int p1), .val (.int p2), .val (.int p3), .val (.int p4), .val (.int p5), .val (.int (0 : Int32)), .val (.ref aa), .unset, .unset] [(.int ((p4.toUInt32 >>> ((16 : Int32) &&& 31).toUInt32).toInt32)), (.int (2 : Int32)), (.ref aa)])
    refine Rch.go (fun _ q => XS.i2b X103.here hx rfl (hb hby at_36) rfl q) ?_
    show Rch p e below _ T103 (mkF m 37 #[.val (.int p1), .val (.int p2), .val (.int p3), .val (.int p4), .val (.int p5), .val (.int (0 : Int32)), .val (.ref aa), .unset, .unset] [(.int (((p4.toUInt32 >>> ((16 : Int32) &&& 31).toUInt32).toInt32).toInt8.toInt32)), (.int (2 : Int32)), (.ref aa)])
    obtain ⟨T104, h104, X104, e104, W104, V104, st104⟩ := sdB X103 hx hZ e103 V_aa_103 (j := (2 : Int32)) (by decide) 2 (by decide) (Nat.le_of_ble_eq_true rfl) (g := (mkF m 37 #[.val (.int p1), .val (.int p2), .val (.int p3), .val (.int p4), .val (.int p5), .val (.int (0 : Int32)), .val (.ref aa), .unset, .unset] [(.int (((p4.toUInt32 >>> ((16 : Int32) &&& 31).toUInt32).toInt32).toInt8.toInt32)), (.int (2 : Int32)), (.ref aa)])) rfl rfl (hb hby at_37)
    have V_aa_104 : Arv Z h104 aa kk_aa .byte 5 [(.int (nar .byte (p4.toInt8.toInt32))), (.int (nar .byte (((p4.toUInt32 >>> ((8 : Int32) &&& 31).toUInt32).toInt32).toInt8.toInt32))), (.int (nar .byte (((p4.toUInt32 >>> ((16 : Int32) &&& 31).toUInt32).toInt32).toInt8.toInt32))), (.int 0), (.int 0)] (.int 0) := V104
    have N104 := Fr.snoc X104 N103 le_aa
    have Z104 : n0 ≤ h104.size := by rw [W104.size]; exact Z103
    refine Rch.go st104 ?_
    show Rch p e below _ T104 (mkF m 38 #[.val (.int p1), .val (.int p2), .val (.int p3), .val (.int p4), .val (.int p5), .val (.int (0 : Int32)), .val (.ref aa), .unset, .unset] [])
    refine Rch.go (fun _ q => XS.aload X104.here hx rfl (hb hby at_38) rfl rfl q) ?_
    show Rch p e below _ T104 (mkF m 40 #[.val (.int p1), .val (.int p2), .val (.int p3), .val (.int p4), .val (.int p5), .val (.int (0 : Int32)), .val (.ref aa), .unset, .unset] [(.ref aa)])
    refine Rch.go (fun _ q => XS.iconst X104.here hx rfl (hb hby at_40) q) ?_
    show Rch p e below _ T104 (mkF m 41 #[.val (.int p1), .val (.int p2), .val (.int p3), .val (.int p4), .val (.int p5), .val (.int (0 : Int32)), .val (.ref aa), .unset, .unset] [(.int (3 : Int32)), (.ref aa)])
    refine Rch.go (fun _ q => XS.iloadN X104.here hx rfl (hb hby at_41) rfl  q) ?_
    show Rch p e below _ T104 (mkF m 42 #[.val (.int p1), .val (.int p2), .val (.int p3), .val (.int p4), .val (.int p5), .val (.int (0 : Int32)), .val (.ref aa), .unset, .unset] [(.int p4), (.int (3 : Int32)), (.ref aa)])
    refine Rch.go (fun _ q => XS.bipush X104.here hx rfl (hb hby at_42) q) ?_
    show Rch p e below _ T104 (mkF m 44 #[.val (.int p1), .val (.int p2), .val (.int p3), .val (.int p4), .val (.int p5), .val (.int (0 : Int32)), .val (.ref aa), .unset, .unset] [(.int (24 : Int32)), (.int p4), (.int (3 : Int32)), (.ref aa)])
    refine Rch.go (fun _ q => XS.iushr X104.here hx rfl (hb hby at_44) rfl q) ?_
    show Rch p e below _ T104 (mkF m 45 #[.val (.int p1), .val (.int p2), .val (.int p3), .val (.int p4), .val (.int p5), .val (.int (0 : Int32)), .val (.ref aa), .unset, .unset] [(.int ((p4.toUInt32 >>> ((24 : Int32) &&& 31).toUInt32).toInt32)), (.int (3 : Int32)), (.ref aa)])
    refine Rch.go (fun _ q => XS.i2b X104.here hx rfl (hb hby at_45) rfl q) ?_
    show Rch p e below _ T104 (mkF m 46 #[.val (.int p1), .val (.int p2), .val (.int p3), .val (.int p4), .val (.int p5), .val (.int (0 : Int32)), .val (.ref aa), .unset, .unset] [(.int (((p4.toUInt32 >>> ((24 : Int32) &&& 31).toUInt32).toInt32).toInt8.toInt32)), (.int (3 : Int32)), (.ref aa)])
    obtain ⟨T105, h105, X105, e105, W105, V105, st105⟩ := sdB X104 hx hZ e104 V_aa_104 (j := (3 : Int32)) (by decide) 3 (by decide) (Nat.le_of_ble_eq_true rfl) (g := (mkF m 46 #[.val (.int p1), .val (.int p2), .val (.int p3), .val (.int p4), .val (.int p5), .val (.int (0 : Int32)), .val (.ref aa), .unset, .unset] [(.int (((p4.toUInt32 >>> ((24 : Int32) &&& 31).toUInt32).toInt32).toInt8.toInt32)), (.int (3 : Int32)), (.ref aa)])) rfl rfl (hb hby at_46)
    have V_aa_105 : Arv Z h105 aa kk_aa .byte 5 [(.int (nar .byte (p4.toInt8.toInt32))), (.int (nar .byte (((p4.toUInt32 >>> ((8 : Int32) &&& 31).toUInt32).toInt32).toInt8.toInt32))), (.int (nar .byte (((p4.toUInt32 >>> ((16 : Int32) &&& 31).toUInt32).toInt32).toInt8.toInt32))), (.int (nar .byte (((p4.toUInt32 >>> ((24 : Int32) &&& 31).toUInt32).toInt32).toInt8.toInt32))), (.int 0)] (.int 0) := V105
    have N105 := Fr.snoc X105 N104 le_aa
    have Z105 : n0 ≤ h105.size := by rw [W105.size]; exact Z104
    refine Rch.go st105 ?_
    show Rch p e below _ T105 (mkF m 47 #[.val (.int p1), .val (.int p2), .val (.int p3), .val (.int p4), .val (.int p5), .val (.int (0 : Int32)), .val (.ref aa), .unset, .unset] [])
    refine Rch.go (fun _ q => XS.aload X105.here hx rfl (hb hby at_47) rfl rfl q) ?_
    show Rch p e below _ T105 (mkF m 49 #[.val (.int p1), .val (.int p2), .val (.int p3), .val (.int p4), .val (.int p5), .val (.int (0 : Int32)), .val (.ref aa), .unset, .unset] [(.ref aa)])
    refine Rch.go (fun _ q => XS.iconst X105.here hx rfl (hb hby at_49) q) ?_
    show Rch p e below _ T105 (mkF m 50 #[.val (.int p1), .val (.int p2), .val (.int p3), .val (.int p4), .val (.int p5), .val (.int (0 : Int32)), .val (.ref aa), .unset, .unset] [(.int (4 : Int32)), (.ref aa)])
    refine Rch.go (fun _ q => XS.iloadN X105.here hx rfl (hb hby at_50) rfl  q) ?_
    show Rch p e below _ T105 (mkF m 51 #[.val (.int p1), .val (.int p2), .val (.int p3), .val (.int p4), .val (.int p5), .val (.int (0 : Int32)), .val (.ref aa), .unset, .unset] [(.int p4), (.int (4 : Int32)), (.ref aa)])
    refine Rch.go (fun _ q => XS.bipush X105.here hx rfl (hb hby at_51) q) ?_
    show Rch p e below _ T105 (mkF m 53 #[.val (.int p1), .val (.int p2), .val (.int p3), .val (.int p4), .val (.int p5), .val (.int (0 : Int32)), .val (.ref aa), .unset, .unset] [(.int (90 : Int32)), (.int p4), (.int (4 : Int32)), (.ref aa)])
    refine Rch.go (fun _ q => XS.ixor X105.here hx rfl (hb hby at_53) rfl q) ?_
    show Rch p e below _ T105 (mkF m 54 #[.val (.int p1), .val (.int p2), .val (.int p3), .val (.int p4), .val (.int p5), .val (.int (0 : Int32)), .val (.ref aa), .unset, .unset] [(.int (p4 ^^^ (90 : Int32))), (.int (4 : Int32)), (.ref aa)])
    refine Rch.go (fun _ q => XS.i2b X105.here hx rfl (hb hby at_54) rfl q) ?_
    show Rch p e below _ T105 (mkF m 55 #[.val (.int p1), .val (.int p2), .val (.int p3), .val (.int p4), .val (.int p5), .val (.int (0 : Int32)), .val (.ref aa), .unset, .unset] [(.int ((p4 ^^^ (90 : Int32)).toInt8.toInt32)), (.int (4 : Int32)), (.ref aa)])
    obtain ⟨T106, h106, X106, e106, W106, V106, st106⟩ := sdB X105 hx hZ e105 V_aa_105 (j := (4 : Int32)) (by decide) 4 (by decide) (Nat.le_of_ble_eq_true rfl) (g := (mkF m 55 #[.val (.int p1), .val (.int p2), .val (.int p3), .val (.int p4), .val (.int p5), .val (.int (0 : Int32)), .val (.ref aa), .unset, .unset] [(.int ((p4 ^^^ (90 : Int32)).toInt8.toInt32)), (.int (4 : Int32)), (.ref aa)])) rfl rfl (hb hby at_55)
    have V_aa_106 : Arv Z h106 aa kk_aa .byte 5 [(.int (nar .byte (p4.toInt8.toInt32))), (.int (nar .byte (((p4.toUInt32 >>> ((8 : Int32) &&& 31).toUInt32).toInt32).toInt8.toInt32))), (.int (nar .byte (((p4.toUInt32 >>> ((16 : Int32) &&& 31).toUInt32).toInt32).toInt8.toInt32))), (.int (nar .byte (((p4.toUInt32 >>> ((24 : Int32) &&& 31).toUInt32).toInt32).toInt8.toInt32))), (.int (nar .byte ((p4 ^^^ (90 : Int32)).toInt8.toInt32)))] (.int 0) := V106
    have N106 := Fr.snoc X106 N105 le_aa
    have Z106 : n0 ≤ h106.size := by rw [W106.size]; exact Z105
    refine Rch.go st106 ?_
    show Rch p e below _ T106 (mkF m 56 #[.val (.int p1), .val (.int p2), .val (.int p3), .val (.int p4), .val (.int p5), .val (.int (0 : Int32)), .val (.ref aa), .unset, .unset] [])
    refine Rch.go (fun _ q => XS.aload X106.here hx rfl (hb hby at_56) rfl rfl q) ?_
    show Rch p e below _ T106 (mkF m 58 #[.val (.int p1), .val (.int p2), .val (.int p3), .val (.int p4), .val (.int p5), .val (.int (0 : Int32)), .val (.ref aa), .unset, .unset] [(.ref aa)])
    refine Rch.go (fun _ q => XS.iload X106.here hx rfl (hb hby at_58) rfl  q) ?_
    show Rch p e below _ T106 (mkF m 60 #[.val (.int p1), .val (.int p2), .val (.int p3), .val (.int p4), .val (.int p5), .val (.int (0 : Int32)), .val (.ref aa), .unset, .unset] [(.int (0 : Int32)), (.ref aa)])
    refine Rch.go (fun _ q => XS.iloadN X106.here hx rfl (hb hby at_60) rfl  q) ?_
    show Rch p e below _ T106 (mkF m 61 #[.val (.int p1), .val (.int p2), .val (.int p3), .val (.int p4), .val (.int p5), .val (.int (0 : Int32)), .val (.ref aa), .unset, .unset] [(.int p1), (.int (0 : Int32)), (.ref aa)])
    refine Rch.go (fun _ q => XS.i2b X106.here hx rfl (hb hby at_61) rfl q) ?_
    show Rch p e below _ T106 (mkF m 62 #[.val (.int p1), .val (.int p2), .val (.int p3), .val (.int p4), .val (.int p5), .val (.int (0 : Int32)), .val (.ref aa), .unset, .unset] [(.int (p1.toInt8.toInt32)), (.int (0 : Int32)), (.ref aa)])
    obtain ⟨T107, h107, X107, e107, W107, V107, st107⟩ := sdB X106 hx hZ e106 V_aa_106 (j := (0 : Int32)) (by decide) 0 (by decide) (Nat.le_of_ble_eq_true rfl) (g := (mkF m 62 #[.val (.int p1), .val (.int p2), .val (.int p3), .val (.int p4), .val (.int p5), .val (.int (0 : Int32)), .val (.ref aa), .unset, .unset] [(.int (p1.toInt8.toInt32)), (.int (0 : Int32)), (.ref aa)])) rfl rfl (hb hby at_62)
    have V_aa_107 : Arv Z h107 aa kk_aa .byte 5 [(.int (nar .byte (p1.toInt8.toInt32))), (.int (nar .byte (((p4.toUInt32 >>> ((8 : Int32) &&& 31).toUInt32).toInt32).toInt8.toInt32))), (.int (nar .byte (((p4.toUInt32 >>> ((16 : Int32) &&& 31).toUInt32).toInt32).toInt8.toInt32))), (.int (nar .byte (((p4.toUInt32 >>> ((24 : Int32) &&& 31).toUInt32).toInt32).toInt8.toInt32))), (.int (nar .byte ((p4 ^^^ (90 : Int32)).toInt8.toInt32)))] (.int 0) := V107
    have N107 := Fr.snoc X107 N106 le_aa
    have Z107 : n0 ≤ h107.size := by rw [W107.size]; exact Z106
    refine Rch.go st107 ?_
    show Rch p e below _ T107 (mkF m 63 #[.val (.int p1), .val (.int p2), .val (.int p3), .val (.int p4), .val (.int p5), .val (.int (0 : Int32)), .val (.ref aa), .unset, .unset] [])
    refine Rch.go (fun _ q => XS.aload X107.here hx rfl (hb hby at_63) rfl rfl q) ?_
    show Rch p e below _ T107 (mkF m 65 #[.val (.int p1), .val (.int p2), .val (.int p3), .val (.int p4), .val (.int p5), .val (.int (0 : Int32)), .val (.ref aa), .unset, .unset] [(.ref aa)])
    refine Rch.go (fun _ q => XS.iload X107.here hx rfl (hb hby at_65) rfl  q) ?_
    show Rch p e below _ T107 (mkF m 67 #[.val (.int p1), .val (.int p2), .val (.int p3), .val (.int p4), .val (.int p5), .val (.int (0 : Int32)), .val (.ref aa), .unset, .unset] [(.int (0 : Int32)), (.ref aa)])
    refine Rch.go (fun _ q => XS.iconst X107.here hx rfl (hb hby at_67) q) ?_
    show Rch p e below _ T107 (mkF m 68 #[.val (.int p1), .val (.int p2), .val (.int p3), .val (.int p4), .val (.int p5), .val (.int (0 : Int32)), .val (.ref aa), .unset, .unset] [(.int (1 : Int32)), (.int (0 : Int32)), (.ref aa)])
    refine Rch.go (fun _ q => XS.iadd X107.here hx rfl (hb hby at_68) rfl q) ?_
    show Rch p e below _ T107 (mkF m 69 #[.val (.int p1), .val (.int p2), .val (.int p3), .val (.int p4), .val (.int p5), .val (.int (0 : Int32)), .val (.ref aa), .unset, .unset] [(.int ((0 : Int32) + (1 : Int32))), (.ref aa)])
    refine Rch.go (fun _ q => XS.iloadN X107.here hx rfl (hb hby at_69) rfl  q) ?_
    show Rch p e below _ T107 (mkF m 70 #[.val (.int p1), .val (.int p2), .val (.int p3), .val (.int p4), .val (.int p5), .val (.int (0 : Int32)), .val (.ref aa), .unset, .unset] [(.int p2), (.int ((0 : Int32) + (1 : Int32))), (.ref aa)])
    refine Rch.go (fun _ q => XS.i2b X107.here hx rfl (hb hby at_70) rfl q) ?_
    show Rch p e below _ T107 (mkF m 71 #[.val (.int p1), .val (.int p2), .val (.int p3), .val (.int p4), .val (.int p5), .val (.int (0 : Int32)), .val (.ref aa), .unset, .unset] [(.int (p2.toInt8.toInt32)), (.int ((0 : Int32) + (1 : Int32))), (.ref aa)])
    obtain ⟨T108, h108, X108, e108, W108, V108, st108⟩ := sdB X107 hx hZ e107 V_aa_107 (j := ((0 : Int32) + (1 : Int32))) (by decide) 1 (by decide) (Nat.le_of_ble_eq_true rfl) (g := (mkF m 71 #[.val (.int p1), .val (.int p2), .val (.int p3), .val (.int p4), .val (.int p5), .val (.int (0 : Int32)), .val (.ref aa), .unset, .unset] [(.int (p2.toInt8.toInt32)), (.int ((0 : Int32) + (1 : Int32))), (.ref aa)])) rfl rfl (hb hby at_71)
    have V_aa_108 : Arv Z h108 aa kk_aa .byte 5 [(.int (nar .byte (p1.toInt8.toInt32))), (.int (nar .byte (p2.toInt8.toInt32))), (.int (nar .byte (((p4.toUInt32 >>> ((16 : Int32) &&& 31).toUInt32).toInt32).toInt8.toInt32))), (.int (nar .byte (((p4.toUInt32 >>> ((24 : Int32) &&& 31).toUInt32).toInt32).toInt8.toInt32))), (.int (nar .byte ((p4 ^^^ (90 : Int32)).toInt8.toInt32)))] (.int 0) := V108
    have N108 := Fr.snoc X108 N107 le_aa
    have Z108 : n0 ≤ h108.size := by rw [W108.size]; exact Z107
    refine Rch.go st108 ?_
    show Rch p e below _ T108 (mkF m 72 #[.val (.int p1), .val (.int p2), .val (.int p3), .val (.int p4), .val (.int p5), .val (.int (0 : Int32)), .val (.ref aa), .unset, .unset] [])
    refine Rch.go (fun _ q => XS.aload X108.here hx rfl (hb hby at_72) rfl rfl q) ?_
    show Rch p e below _ T108 (mkF m 74 #[.val (.int p1), .val (.int p2), .val (.int p3), .val (.int p4), .val (.int p5), .val (.int (0 : Int32)), .val (.ref aa), .unset, .unset] [(.ref aa)])
    refine Rch.go (fun _ q => XS.iload X108.here hx rfl (hb hby at_74) rfl  q) ?_
    show Rch p e below _ T108 (mkF m 76 #[.val (.int p1), .val (.int p2), .val (.int p3), .val (.int p4), .val (.int p5), .val (.int (0 : Int32)), .val (.ref aa), .unset, .unset] [(.int (0 : Int32)), (.ref aa)])
    refine Rch.go (fun _ q => XS.iconst X108.here hx rfl (hb hby at_76) q) ?_
    show Rch p e below _ T108 (mkF m 77 #[.val (.int p1), .val (.int p2), .val (.int p3), .val (.int p4), .val (.int p5), .val (.int (0 : Int32)), .val (.ref aa), .unset, .unset] [(.int (2 : Int32)), (.int (0 : Int32)), (.ref aa)])
    refine Rch.go (fun _ q => XS.iadd X108.here hx rfl (hb hby at_77) rfl q) ?_
    show Rch p e below _ T108 (mkF m 78 #[.val (.int p1), .val (.int p2), .val (.int p3), .val (.int p4), .val (.int p5), .val (.int (0 : Int32)), .val (.ref aa), .unset, .unset] [(.int ((0 : Int32) + (2 : Int32))), (.ref aa)])
    refine Rch.go (fun _ q => XS.iloadN X108.here hx rfl (hb hby at_78) rfl  q) ?_
    show Rch p e below _ T108 (mkF m 79 #[.val (.int p1), .val (.int p2), .val (.int p3), .val (.int p4), .val (.int p5), .val (.int (0 : Int32)), .val (.ref aa), .unset, .unset] [(.int p3), (.int ((0 : Int32) + (2 : Int32))), (.ref aa)])
    refine Rch.go (fun _ q => XS.i2b X108.here hx rfl (hb hby at_79) rfl q) ?_
    show Rch p e below _ T108 (mkF m 80 #[.val (.int p1), .val (.int p2), .val (.int p3), .val (.int p4), .val (.int p5), .val (.int (0 : Int32)), .val (.ref aa), .unset, .unset] [(.int (p3.toInt8.toInt32)), (.int ((0 : Int32) + (2 : Int32))), (.ref aa)])
    obtain ⟨T109, h109, X109, e109, W109, V109, st109⟩ := sdB X108 hx hZ e108 V_aa_108 (j := ((0 : Int32) + (2 : Int32))) (by decide) 2 (by decide) (Nat.le_of_ble_eq_true rfl) (g := (mkF m 80 #[.val (.int p1), .val (.int p2), .val (.int p3), .val (.int p4), .val (.int p5), .val (.int (0 : Int32)), .val (.ref aa), .unset, .unset] [(.int (p3.toInt8.toInt32)), (.int ((0 : Int32) + (2 : Int32))), (.ref aa)])) rfl rfl (hb hby at_80)
    have V_aa_109 : Arv Z h109 aa kk_aa .byte 5 [(.int (nar .byte (p1.toInt8.toInt32))), (.int (nar .byte (p2.toInt8.toInt32))), (.int (nar .byte (p3.toInt8.toInt32))), (.int (nar .byte (((p4.toUInt32 >>> ((24 : Int32) &&& 31).toUInt32).toInt32).toInt8.toInt32))), (.int (nar .byte ((p4 ^^^ (90 : Int32)).toInt8.toInt32)))] (.int 0) := V109
    have N109 := Fr.snoc X109 N108 le_aa
    have Z109 : n0 ≤ h109.size := by rw [W109.size]; exact Z108
    refine Rch.go st109 ?_
    show Rch p e below _ T109 (mkF m 81 #[.val (.int p1), .val (.int p2), .val (.int p3), .val (.int p4), .val (.int p5), .val (.int (0 : Int32)), .val (.ref aa), .unset, .unset] [])
    refine Rch.go (fun _ q => XS.iloadN X109.here hx rfl (hb hby at_81) rfl  q) ?_
    show Rch p e below _ T109 (mkF m 82 #[.val (.int p1), .val (.int p2), .val (.int p3), .val (.int p4), .val (.int p5), .val (.int (0 : Int32)), .val (.ref aa), .unset, .unset] [(.int p1)])
    refine Rch.go (fun _ q => XS.i2b X109.here hx rfl (hb hby at_82) rfl q) ?_
    show Rch p e below _ T109 (mkF m 83 #[.val (.int p1), .val (.int p2), .val (.int p3), .val (.int p4), .val (.int p5), .val (.int (0 : Int32)), .val (.ref aa), .unset, .unset] [(.int (p1.toInt8.toInt32))])
    obtain ⟨_, _, ⟨T110, L110, k110, n110⟩, -, X110, ⟨Lc110, hQ110, l110, y110, z110⟩, st110⟩ := Jvm.LawKit.callS X109 hx (y := (⟨"com/example/tessera/tessera/LittleEndianGetUnsignedInt24PinLaw", "u", "(B)I"⟩ : MethodName)) hown (mvT hZ (hw _ (List.mem_of_getElem? (i := 2) rfl))) (mvT hZ (hw _ (List.mem_of_getElem? (i := 3) rfl))) (mvT hZ (hw _ (List.mem_of_getElem? (i := 4) rfl))) (mvT hZ (hw _ (List.mem_of_getElem? (i := 5) rfl))) (by decide) (backOf (W := 0) (rm1 l Z a0 hw [] (p1.toInt8.toInt32) h109 n0 Z109) hZ (hw _ (List.mem_of_getElem? (i := 5) rfl)) (hw _ (List.mem_of_getElem? (i := 4) rfl)) (by decide) (by decide)) (g := (mkF m 83 #[.val (.int p1), .val (.int p2), .val (.int p3), .val (.int p4), .val (.int p5), .val (.int (0 : Int32)), .val (.ref aa), .unset, .unset] [(.int (p1.toInt8.toInt32))])) rfl (by rw [hml]; rfl) (argsL := [(.int (p1.toInt8.toInt32))]) (rest := []) (lenOf own_pd0 rfl) rfl (by show 2 * 0 + _ ≤ _; exact Nat.le_of_eq rfl) (hb hby at_83) (fun _ _ => ⟨rfl, e109, (by decide : 1 + 0 ≤ _), (by decide : 5 + 0 ≤ _)⟩)
    dsimp only [Pt.U, Pt.locs, Pt.cells, Pt.slots] at X110 l110 y110 z110 st110 hQ110
    subst l110 y110 z110
    obtain ⟨rfl, Nc, ec⟩ := hQ110
    refine Rch.go st110 ?_
    show Rch p e below _ T110 (mkF m 86 #[.val (.int p1), .val (.int p2), .val (.int p3), .val (.int p4), .val (.int p5), .val (.int (0 : Int32)), .val (.ref aa), .unset, .unset] [(.int (own_u (p1.toInt8.toInt32)))])
    have N110 := Fr.app N109 Nc
    have e110 := ec
    refine Rch.go (fun _ q => XS.sipush X110.here hx rfl (hb hby at_86) q) ?_
    show Rch p e below _ T110 (mkF m 89 #[.val (.int p1), .val (.int p2), .val (.int p3), .val (.int p4), .val (.int p5), .val (.int (0 : Int32)), .val (.ref aa), .unset, .unset] [(.int (256 : Int32)), (.int (own_u (p1.toInt8.toInt32)))])
    refine Rch.go (fun _ q => XS.iloadN X110.here hx rfl (hb hby at_89) rfl  q) ?_
    show Rch p e below _ T110 (mkF m 90 #[.val (.int p1), .val (.int p2), .val (.int p3), .val (.int p4), .val (.int p5), .val (.int (0 : Int32)), .val (.ref aa), .unset, .unset] [(.int p2), (.int (256 : Int32)), (.int (own_u (p1.toInt8.toInt32)))])
    refine Rch.go (fun _ q => XS.i2b X110.here hx rfl (hb hby at_90) rfl q) ?_
    show Rch p e below _ T110 (mkF m 91 #[.val (.int p1), .val (.int p2), .val (.int p3), .val (.int p4), .val (.int p5), .val (.int (0 : Int32)), .val (.ref aa), .unset, .unset] [(.int (p2.toInt8.toInt32)), (.int (256 : Int32)), (.int (own_u (p1.toInt8.toInt32)))])
    obtain ⟨_, _, ⟨T111, L111, k111, n111⟩, -, X111, ⟨Lc111, hQ111, l111, y111, z111⟩, st111⟩ := Jvm.LawKit.callS X110 hx (y := (⟨"com/example/tessera/tessera/LittleEndianGetUnsignedInt24PinLaw", "u", "(B)I"⟩ : MethodName)) hown (mvT hZ (hw _ (List.mem_of_getElem? (i := 2) rfl))) (mvT hZ (hw _ (List.mem_of_getElem? (i := 3) rfl))) (mvT hZ (hw _ (List.mem_of_getElem? (i := 4) rfl))) (mvT hZ (hw _ (List.mem_of_getElem? (i := 5) rfl))) (by decide) (backOf (W := 2) (rm1 l Z a0 hw [] (p2.toInt8.toInt32) h109 n0 Z109) hZ (hw _ (List.mem_of_getElem? (i := 5) rfl)) (hw _ (List.mem_of_getElem? (i := 4) rfl)) (by decide) (by decide)) (g := (mkF m 91 #[.val (.int p1), .val (.int p2), .val (.int p3), .val (.int p4), .val (.int p5), .val (.int (0 : Int32)), .val (.ref aa), .unset, .unset] [(.int (p2.toInt8.toInt32)), (.int (256 : Int32)), (.int (own_u (p1.toInt8.toInt32)))])) rfl (by rw [hml]; rfl) (argsL := [(.int (p2.toInt8.toInt32))]) (rest := [(.int (256 : Int32)), (.int (own_u (p1.toInt8.toInt32)))]) (lenOf own_pd0 rfl) rfl (by show 2 * 0 + _ ≤ _; exact Nat.le_of_eq rfl) (hb hby at_91) (fun _ _ => ⟨rfl, e110, (by decide : 1 + 0 ≤ _), (by decide : 5 + 0 ≤ _)⟩)
    dsimp only [Pt.U, Pt.locs, Pt.cells, Pt.slots] at X111 l111 y111 z111 st111 hQ111
    subst l111 y111 z111
    obtain ⟨rfl, Nc, ec⟩ := hQ111
    refine Rch.go st111 ?_
    show Rch p e below _ T111 (mkF m 94 #[.val (.int p1), .val (.int p2), .val (.int p3), .val (.int p4), .val (.int p5), .val (.int (0 : Int32)), .val (.ref aa), .unset, .unset] [(.int (own_u (p2.toInt8.toInt32))), (.int (256 : Int32)), (.int (own_u (p1.toInt8.toInt32)))])
    have N111 := Fr.app N110 Nc
    have e111 := ec
    refine Rch.go (fun _ q => XS.imul X111.here hx rfl (hb hby at_94) rfl q) ?_
    show Rch p e below _ T111 (mkF m 95 #[.val (.int p1), .val (.int p2), .val (.int p3), .val (.int p4), .val (.int p5), .val (.int (0 : Int32)), .val (.ref aa), .unset, .unset] [(.int ((256 : Int32) * (own_u (p2.toInt8.toInt32)))), (.int (own_u (p1.toInt8.toInt32)))])
    refine Rch.go (fun _ q => XS.iadd X111.here hx rfl (hb hby at_95) rfl q) ?_
    show Rch p e below _ T111 (mkF m 96 #[.val (.int p1), .val (.int p2), .val (.int p3), .val (.int p4), .val (.int p5), .val (.int (0 : Int32)), .val (.ref aa), .unset, .unset] [(.int ((own_u (p1.toInt8.toInt32)) + ((256 : Int32) * (own_u (p2.toInt8.toInt32)))))])
    refine Rch.go (fun _ q => X111.ldcI hx (own := "com/example/tessera/tessera/LittleEndianGetUnsignedInt24PinLaw") hown (mvT hZ (hw _ (List.mem_of_getElem? (i := 6) rfl))) rfl (hb hby at_96) q) ?_
    show Rch p e below _ T111 (mkF m 98 #[.val (.int p1), .val (.int p2), .val (.int p3), .val (.int p4), .val (.int p5), .val (.int (0 : Int32)), .val (.ref aa), .unset, .unset] [(.int (65536 : Int32)), (.int ((own_u (p1.toInt8.toInt32)) + ((256 : Int32) * (own_u (p2.toInt8.toInt32)))))])
    refine Rch.go (fun _ q => XS.iloadN X111.here hx rfl (hb hby at_98) rfl  q) ?_
    show Rch p e below _ T111 (mkF m 99 #[.val (.int p1), .val (.int p2), .val (.int p3), .val (.int p4), .val (.int p5), .val (.int (0 : Int32)), .val (.ref aa), .unset, .unset] [(.int p3), (.int (65536 : Int32)), (.int ((own_u (p1.toInt8.toInt32)) + ((256 : Int32) * (own_u (p2.toInt8.toInt32)))))])
    refine Rch.go (fun _ q => XS.i2b X111.here hx rfl (hb hby at_99) rfl q) ?_
    show Rch p e below _ T111 (mkF m 100 #[.val (.int p1), .val (.int p2), .val (.int p3), .val (.int p4), .val (.int p5), .val (.int (0 : Int32)), .val (.ref aa), .unset, .unset] [(.int (p3.toInt8.toInt32)), (.int (65536 : Int32)), (.int ((own_u (p1.toInt8.toInt32)) + ((256 : Int32) * (own_u (p2.toInt8.toInt32)))))])
    obtain ⟨_, _, ⟨T112, L112, k112, n112⟩, -, X112, ⟨Lc112, hQ112, l112, y112, z112⟩, st112⟩ := Jvm.LawKit.callS X111 hx (y := (⟨"com/example/tessera/tessera/LittleEndianGetUnsignedInt24PinLaw", "u", "(B)I"⟩ : MethodName)) hown (mvT hZ (hw _ (List.mem_of_getElem? (i := 2) rfl))) (mvT hZ (hw _ (List.mem_of_getElem? (i := 3) rfl))) (mvT hZ (hw _ (List.mem_of_getElem? (i := 4) rfl))) (mvT hZ (hw _ (List.mem_of_getElem? (i := 5) rfl))) (by decide) (backOf (W := 2) (rm1 l Z a0 hw [] (p3.toInt8.toInt32) h109 n0 Z109) hZ (hw _ (List.mem_of_getElem? (i := 5) rfl)) (hw _ (List.mem_of_getElem? (i := 4) rfl)) (by decide) (by decide)) (g := (mkF m 100 #[.val (.int p1), .val (.int p2), .val (.int p3), .val (.int p4), .val (.int p5), .val (.int (0 : Int32)), .val (.ref aa), .unset, .unset] [(.int (p3.toInt8.toInt32)), (.int (65536 : Int32)), (.int ((own_u (p1.toInt8.toInt32)) + ((256 : Int32) * (own_u (p2.toInt8.toInt32)))))])) rfl (by rw [hml]; rfl) (argsL := [(.int (p3.toInt8.toInt32))]) (rest := [(.int (65536 : Int32)), (.int ((own_u (p1.toInt8.toInt32)) + ((256 : Int32) * (own_u (p2.toInt8.toInt32)))))]) (lenOf own_pd0 rfl) rfl (by show 2 * 0 + _ ≤ _; exact Nat.le_of_eq rfl) (hb hby at_100) (fun _ _ => ⟨rfl, e111, (by decide : 1 + 0 ≤ _), (by decide : 5 + 0 ≤ _)⟩)
    dsimp only [Pt.U, Pt.locs, Pt.cells, Pt.slots] at X112 l112 y112 z112 st112 hQ112
    subst l112 y112 z112
    obtain ⟨rfl, Nc, ec⟩ := hQ112
    refine Rch.go st112 ?_
    show Rch p e below _ T112 (mkF m 103 #[.val (.int p1), .val (.int p2), .val (.int p3), .val (.int p4), .val (.int p5), .val (.int (0 : Int32)), .val (.ref aa), .unset, .unset] [(.int (own_u (p3.toInt8.toInt32))), (.int (65536 : Int32)), (.int ((own_u (p1.toInt8.toInt32)) + ((256 : Int32) * (own_u (p2.toInt8.toInt32)))))])
    have N112 := Fr.app N111 Nc
    have e112 := ec
    refine Rch.go (fun _ q => XS.imul X112.here hx rfl (hb hby at_103) rfl q) ?_
    show Rch p e below _ T112 (mkF m 104 #[.val (.int p1), .val (.int p2), .val (.int p3), .val (.int p4), .val (.int p5), .val (.int (0 : Int32)), .val (.ref aa), .unset, .unset] [(.int ((65536 : Int32) * (own_u (p3.toInt8.toInt32)))), (.int ((own_u (p1.toInt8.toInt32)) + ((256 : Int32) * (own_u (p2.toInt8.toInt32)))))])
    refine Rch.go (fun _ q => XS.iadd X112.here hx rfl (hb hby at_104) rfl q) ?_
    show Rch p e below _ T112 (mkF m 105 #[.val (.int p1), .val (.int p2), .val (.int p3), .val (.int p4), .val (.int p5), .val (.int (0 : Int32)), .val (.ref aa), .unset, .unset] [(.int (((own_u (p1.toInt8.toInt32)) + ((256 : Int32) * (own_u (p2.toInt8.toInt32)))) + ((65536 : Int32) * (own_u (p3.toInt8.toInt32)))))])
    refine Rch.go (fun _ q => XS.istore X112.here hx rfl (hb hby at_105) rfl (l' := #[.val (.int p1), .val (.int p2), .val (.int p3), .val (.int p4), .val (.int p5), .val (.int (0 : Int32)), .val (.ref aa), .val (.int (((own_u (p1.toInt8.toInt32)) + ((256 : Int32) * (own_u (p2.toInt8.toInt32)))) + ((65536 : Int32) * (own_u (p3.toInt8.toInt32))))), .unset]) rfl q) ?_
    show Rch p e below _ T112 (mkF m 107 #[.val (.int p1), .val (.int p2), .val (.int p3), .val (.int p4), .val (.int p5), .val (.int (0 : Int32)), .val (.ref aa), .val (.int (((own_u (p1.toInt8.toInt32)) + ((256 : Int32) * (own_u (p2.toInt8.toInt32)))) + ((65536 : Int32) * (own_u (p3.toInt8.toInt32))))), .unset] [])
    refine Rch.go (fun _ q => XS.aload X112.here hx rfl (hb hby at_107) rfl rfl q) ?_
    show Rch p e below _ T112 (mkF m 109 #[.val (.int p1), .val (.int p2), .val (.int p3), .val (.int p4), .val (.int p5), .val (.int (0 : Int32)), .val (.ref aa), .val (.int (((own_u (p1.toInt8.toInt32)) + ((256 : Int32) * (own_u (p2.toInt8.toInt32)))) + ((65536 : Int32) * (own_u (p3.toInt8.toInt32))))), .unset] [(.ref aa)])
    refine Rch.go (fun _ q => XS.iload X112.here hx rfl (hb hby at_109) rfl  q) ?_
    show Rch p e below _ T112 (mkF m 111 #[.val (.int p1), .val (.int p2), .val (.int p3), .val (.int p4), .val (.int p5), .val (.int (0 : Int32)), .val (.ref aa), .val (.int (((own_u (p1.toInt8.toInt32)) + ((256 : Int32) * (own_u (p2.toInt8.toInt32)))) + ((65536 : Int32) * (own_u (p3.toInt8.toInt32))))), .unset] [(.int (0 : Int32)), (.ref aa)])
    obtain ⟨_, _, ⟨T113, L113, k113, n113⟩, -, X113, ⟨Lc113, hQ113, l113, y113, z113⟩, st113⟩ := Jvm.LawKit.callS X112 hx (y := (⟨"com/example/tessera/tessera/LittleEndian", "getUnsignedInt24", "([BI)I"⟩ : MethodName)) hown (mvT hZ (hw _ (List.mem_of_getElem? (i := 7) rfl))) (mvT hZ (hw _ (List.mem_of_getElem? (i := 8) rfl))) (mvT hZ (hw _ (List.mem_of_getElem? (i := 9) rfl))) (mvT hZ (hw _ (List.mem_of_getElem? (i := 10) rfl))) (by decide) (backOf (W := 0) (rm2 l Z a0 hw [] aa (0 : Int32) kk_aa 5 [(.int (nar .byte (p1.toInt8.toInt32))), (.int (nar .byte (p2.toInt8.toInt32))), (.int (nar .byte (p3.toInt8.toInt32))), (.int (nar .byte (((p4.toUInt32 >>> ((24 : Int32) &&& 31).toUInt32).toInt32).toInt8.toInt32))), (.int (nar .byte ((p4 ^^^ (90 : Int32)).toInt8.toInt32)))] (.int 0) (nar .byte (p1.toInt8.toInt32)) (nar .byte (p2.toInt8.toInt32)) (nar .byte (p3.toInt8.toInt32)) h109 n0 Z109 V_aa_109 (by decide) rfl (by decide) rfl (by decide) rfl) hZ (hw _ (List.mem_of_getElem? (i := 10) rfl)) (hw _ (List.mem_of_getElem? (i := 9) rfl)) (by decide) (by decide)) (g := (mkF m 111 #[.val (.int p1), .val (.int p2), .val (.int p3), .val (.int p4), .val (.int p5), .val (.int (0 : Int32)), .val (.ref aa), .val (.int (((own_u (p1.toInt8.toInt32)) + ((256 : Int32) * (own_u (p2.toInt8.toInt32)))) + ((65536 : Int32) * (own_u (p3.toInt8.toInt32))))), .unset] [(.int (0 : Int32)), (.ref aa)])) rfl (by rw [hml]; rfl) (argsL := [(.ref aa), (.int (0 : Int32))]) (rest := []) (lenOf own_pd1 rfl) rfl (by show 2 * 0 + _ ≤ _; exact Nat.le_of_eq rfl) (hb hby at_111) (fun _ _ => ⟨rfl, e112, (by decide : 1 + 0 ≤ _), (by decide : 5 + 0 ≤ _)⟩)
    dsimp only [Pt.U, Pt.locs, Pt.cells, Pt.slots] at X113 l113 y113 z113 st113 hQ113
    subst l113 y113 z113
    obtain ⟨rfl, Nc, ec⟩ := hQ113
    refine Rch.go st113 ?_
    show Rch p e below _ T113 (mkF m 114 #[.val (.int p1), .val (.int p2), .val (.int p3), .val (.int p4), .val (.int p5), .val (.int (0 : Int32)), .val (.ref aa), .val (.int (((own_u (p1.toInt8.toInt32)) + ((256 : Int32) * (own_u (p2.toInt8.toInt32)))) + ((65536 : Int32) * (own_u (p3.toInt8.toInt32))))), .unset] [(.int (own_le (nar .byte (p1.toInt8.toInt32)) (nar .byte (p2.toInt8.toInt32)) (nar .byte (p3.toInt8.toInt32))))])
    have N113 := Fr.app N112 Nc
    have e113 := ec
    refine Rch.go (fun _ q => XS.istore X113.here hx rfl (hb hby at_114) rfl (l' := #[.val (.int p1), .val (.int p2), .val (.int p3), .val (.int p4), .val (.int p5), .val (.int (0 : Int32)), .val (.ref aa), .val (.int (((own_u (p1.toInt8.toInt32)) + ((256 : Int32) * (own_u (p2.toInt8.toInt32)))) + ((65536 : Int32) * (own_u (p3.toInt8.toInt32))))), .val (.int (own_le (nar .byte (p1.toInt8.toInt32)) (nar .byte (p2.toInt8.toInt32)) (nar .byte (p3.toInt8.toInt32))))]) rfl q) ?_
    show Rch p e below _ T113 (mkF m 116 #[.val (.int p1), .val (.int p2), .val (.int p3), .val (.int p4), .val (.int p5), .val (.int (0 : Int32)), .val (.ref aa), .val (.int (((own_u (p1.toInt8.toInt32)) + ((256 : Int32) * (own_u (p2.toInt8.toInt32)))) + ((65536 : Int32) * (own_u (p3.toInt8.toInt32))))), .val (.int (own_le (nar .byte (p1.toInt8.toInt32)) (nar .byte (p2.toInt8.toInt32)) (nar .byte (p3.toInt8.toInt32))))] [])
    refine Rch.go (fun _ q => XS.iload X113.here hx rfl (hb hby at_116) rfl  q) ?_
    show Rch p e below _ T113 (mkF m 118 #[.val (.int p1), .val (.int p2), .val (.int p3), .val (.int p4), .val (.int p5), .val (.int (0 : Int32)), .val (.ref aa), .val (.int (((own_u (p1.toInt8.toInt32)) + ((256 : Int32) * (own_u (p2.toInt8.toInt32)))) + ((65536 : Int32) * (own_u (p3.toInt8.toInt32))))), .val (.int (own_le (nar .byte (p1.toInt8.toInt32)) (nar .byte (p2.toInt8.toInt32)) (nar .byte (p3.toInt8.toInt32))))] [(.int (own_le (nar .byte (p1.toInt8.toInt32)) (nar .byte (p2.toInt8.toInt32)) (nar .byte (p3.toInt8.toInt32))))])
    refine Rch.go (fun _ q => XS.iload X113.here hx rfl (hb hby at_118) rfl  q) ?_
    show Rch p e below _ T113 (mkF m 120 #[.val (.int p1), .val (.int p2), .val (.int p3), .val (.int p4), .val (.int p5), .val (.int (0 : Int32)), .val (.ref aa), .val (.int (((own_u (p1.toInt8.toInt32)) + ((256 : Int32) * (own_u (p2.toInt8.toInt32)))) + ((65536 : Int32) * (own_u (p3.toInt8.toInt32))))), .val (.int (own_le (nar .byte (p1.toInt8.toInt32)) (nar .byte (p2.toInt8.toInt32)) (nar .byte (p3.toInt8.toInt32))))] [(.int (((own_u (p1.toInt8.toInt32)) + ((256 : Int32) * (own_u (p2.toInt8.toInt32)))) + ((65536 : Int32) * (own_u (p3.toInt8.toInt32))))), (.int (own_le (nar .byte (p1.toInt8.toInt32)) (nar .byte (p2.toInt8.toInt32)) (nar .byte (p3.toInt8.toInt32))))])
    refine Rch.go (fun _ q => XS.icmpNo X113.here hx rfl (hb hby at_120) rfl (teq (own_law p1 p2 p3)).2 q) ?_
    show Rch p e below _ T113 (mkF m 123 #[.val (.int p1), .val (.int p2), .val (.int p3), .val (.int p4), .val (.int p5), .val (.int (0 : Int32)), .val (.ref aa), .val (.int (((own_u (p1.toInt8.toInt32)) + ((256 : Int32) * (own_u (p2.toInt8.toInt32)))) + ((65536 : Int32) * (own_u (p3.toInt8.toInt32))))), .val (.int (own_le (nar .byte (p1.toInt8.toInt32)) (nar .byte (p2.toInt8.toInt32)) (nar .byte (p3.toInt8.toInt32))))] [])
    refine Rch.go (fun _ q => XS.iload X113.here hx rfl (hb hby at_123) rfl  q) ?_
    show Rch p e below _ T113 (mkF m 125 #[.val (.int p1), .val (.int p2), .val (.int p3), .val (.int p4), .val (.int p5), .val (.int (0 : Int32)), .val (.ref aa), .val (.int (((own_u (p1.toInt8.toInt32)) + ((256 : Int32) * (own_u (p2.toInt8.toInt32)))) + ((65536 : Int32) * (own_u (p3.toInt8.toInt32))))), .val (.int (own_le (nar .byte (p1.toInt8.toInt32)) (nar .byte (p2.toInt8.toInt32)) (nar .byte (p3.toInt8.toInt32))))] [(.int (own_le (nar .byte (p1.toInt8.toInt32)) (nar .byte (p2.toInt8.toInt32)) (nar .byte (p3.toInt8.toInt32))))])
    refine Rch.go (fun _ q => XS.ifNo X113.here hx rfl (hb hby at_125) rfl ((if0 _ _).trans (flt (own_pos _ _ _).1).1) q) ?_
    show Rch p e below _ T113 (mkF m 128 #[.val (.int p1), .val (.int p2), .val (.int p3), .val (.int p4), .val (.int p5), .val (.int (0 : Int32)), .val (.ref aa), .val (.int (((own_u (p1.toInt8.toInt32)) + ((256 : Int32) * (own_u (p2.toInt8.toInt32)))) + ((65536 : Int32) * (own_u (p3.toInt8.toInt32))))), .val (.int (own_le (nar .byte (p1.toInt8.toInt32)) (nar .byte (p2.toInt8.toInt32)) (nar .byte (p3.toInt8.toInt32))))] [])
    refine Rch.go (fun _ q => XS.iload X113.here hx rfl (hb hby at_128) rfl  q) ?_
    show Rch p e below _ T113 (mkF m 130 #[.val (.int p1), .val (.int p2), .val (.int p3), .val (.int p4), .val (.int p5), .val (.int (0 : Int32)), .val (.ref aa), .val (.int (((own_u (p1.toInt8.toInt32)) + ((256 : Int32) * (own_u (p2.toInt8.toInt32)))) + ((65536 : Int32) * (own_u (p3.toInt8.toInt32))))), .val (.int (own_le (nar .byte (p1.toInt8.toInt32)) (nar .byte (p2.toInt8.toInt32)) (nar .byte (p3.toInt8.toInt32))))] [(.int (own_le (nar .byte (p1.toInt8.toInt32)) (nar .byte (p2.toInt8.toInt32)) (nar .byte (p3.toInt8.toInt32))))])
    refine Rch.go (fun _ q => X113.ldcI hx (own := "com/example/tessera/tessera/LittleEndianGetUnsignedInt24PinLaw") hown (mvT hZ (hw _ (List.mem_of_getElem? (i := 11) rfl))) rfl (hb hby at_130) q) ?_
    show Rch p e below _ T113 (mkF m 132 #[.val (.int p1), .val (.int p2), .val (.int p3), .val (.int p4), .val (.int p5), .val (.int (0 : Int32)), .val (.ref aa), .val (.int (((own_u (p1.toInt8.toInt32)) + ((256 : Int32) * (own_u (p2.toInt8.toInt32)))) + ((65536 : Int32) * (own_u (p3.toInt8.toInt32))))), .val (.int (own_le (nar .byte (p1.toInt8.toInt32)) (nar .byte (p2.toInt8.toInt32)) (nar .byte (p3.toInt8.toInt32))))] [(.int (16777215 : Int32)), (.int (own_le (nar .byte (p1.toInt8.toInt32)) (nar .byte (p2.toInt8.toInt32)) (nar .byte (p3.toInt8.toInt32))))])
    refine Rch.go (fun _ q => XS.icmpNo X113.here hx rfl (hb hby at_132) rfl (flt (own_pos _ _ _).2).2.2.1 q) ?_
    show Rch p e below _ T113 (mkF m 135 #[.val (.int p1), .val (.int p2), .val (.int p3), .val (.int p4), .val (.int p5), .val (.int (0 : Int32)), .val (.ref aa), .val (.int (((own_u (p1.toInt8.toInt32)) + ((256 : Int32) * (own_u (p2.toInt8.toInt32)))) + ((65536 : Int32) * (own_u (p3.toInt8.toInt32))))), .val (.int (own_le (nar .byte (p1.toInt8.toInt32)) (nar .byte (p2.toInt8.toInt32)) (nar .byte (p3.toInt8.toInt32))))] [])
    refine Rch.go (fun _ q => XS.iconst X113.here hx rfl (hb hby at_135) q) ?_
    show Rch p e below _ T113 (mkF m 136 #[.val (.int p1), .val (.int p2), .val (.int p3), .val (.int p4), .val (.int p5), .val (.int (0 : Int32)), .val (.ref aa), .val (.int (((own_u (p1.toInt8.toInt32)) + ((256 : Int32) * (own_u (p2.toInt8.toInt32)))) + ((65536 : Int32) * (own_u (p3.toInt8.toInt32))))), .val (.int (own_le (nar .byte (p1.toInt8.toInt32)) (nar .byte (p2.toInt8.toInt32)) (nar .byte (p3.toInt8.toInt32))))] [(.int (1 : Int32))])
    refine Rch.go (fun _ q => XS.goto X113.here hx rfl (pc0 := 136) (pc' := 140) rfl (hb hby at_136) (by decide) (by decide) q) ?_
    show Rch p e below _ T113 (mkF m 140 #[.val (.int p1), .val (.int p2), .val (.int p3), .val (.int p4), .val (.int p5), .val (.int (0 : Int32)), .val (.ref aa), .val (.int (((own_u (p1.toInt8.toInt32)) + ((256 : Int32) * (own_u (p2.toInt8.toInt32)))) + ((65536 : Int32) * (own_u (p3.toInt8.toInt32))))), .val (.int (own_le (nar .byte (p1.toInt8.toInt32)) (nar .byte (p2.toInt8.toInt32)) (nar .byte (p3.toInt8.toInt32))))] [(.int (1 : Int32))])
    refine Rch.retZ X113 hx hlk Bd.returns (hb hby at_140) (by decide) (by decide) ?_
    unfold Qrm0
    exact ⟨rfl, N113⟩
  · rw [hr]
    show Rch p e below _ s₁ (mkF m 9 #[.val (.int p1), .val (.int p2), .val (.int p3), .val (.int p4), .val (.int p5), .val (.int (1 : Int32)), .unset, .unset, .unset] [])
    refine Rch.go (fun _ q => XS.iconst X0.here hx rfl (hb hby at_9) q) ?_
    show Rch p e below _ s₁ (mkF m 10 #[.val (.int p1), .val (.int p2), .val (.int p3), .val (.int p4), .val (.int p5), .val (.int (1 : Int32)), .unset, .unset, .unset] [(.int (5 : Int32))])
    obtain ⟨T114, h114, kk_aa, X114, e114, E114, V114, st114⟩ := naw X0 hx hZ (hw _ (List.mem_of_getElem? (i := 1) rfl)) e0 (g := (mkF m 10 #[.val (.int p1), .val (.int p2), .val (.int p3), .val (.int p4), .val (.int p5), .val (.int (1 : Int32)), .unset, .unset, .unset] [(.int (5 : Int32))])) rfl (hb hby at_10) rfl (by decide) 5 (cap := 5) (by decide) (by decide) (by decide) (by decide)
    obtain ⟨aa, g114⟩ : ∃ q, q = Array.size h0 := ⟨_, rfl⟩
    rw [← g114] at V114 st114
    have V_aa_114 : Arv Z h114 aa kk_aa .byte 5 [(.int 0), (.int 0), (.int 0), (.int 0), (.int 0)] (.int 0) := V114
    have le_aa : n0 ≤ aa := by rw [g114]; exact Z0
    have Z114 : n0 ≤ h114.size := Nat.le_trans Z0 E114.1
    refine Rch.go st114 ?_
    show Rch p e below _ T114 (mkF m 12 #[.val (.int p1), .val (.int p2), .val (.int p3), .val (.int p4), .val (.int p5), .val (.int (1 : Int32)), .unset, .unset, .unset] [(.ref aa)])
    refine Rch.go (fun _ q => XS.astore X114.here hx rfl (hb hby at_12) rfl rfl (l' := #[.val (.int p1), .val (.int p2), .val (.int p3), .val (.int p4), .val (.int p5), .val (.int (1 : Int32)), .val (.ref aa), .unset, .unset]) rfl q) ?_
    show Rch p e below _ T114 (mkF m 14 #[.val (.int p1), .val (.int p2), .val (.int p3), .val (.int p4), .val (.int p5), .val (.int (1 : Int32)), .val (.ref aa), .unset, .unset] [])
    refine Rch.go (fun _ q => XS.aload X114.here hx rfl (hb hby at_14) rfl rfl q) ?_
    show Rch p e below _ T114 (mkF m 16 #[.val (.int p1), .val (.int p2), .val (.int p3), .val (.int p4), .val (.int p5), .val (.int (1 : Int32)), .val (.ref aa), .unset, .unset] [(.ref aa)])
    refine Rch.go (fun _ q => XS.iconst X114.here hx rfl (hb hby at_16) q) ?_
    show Rch p e below _ T114 (mkF m 17 #[.val (.int p1), .val (.int p2), .val (.int p3), .val (.int p4), .val (.int p5), .val (.int (1 : Int32)), .val (.ref aa), .unset, .unset] [(.int (0 : Int32)), (.ref aa)])
    refine Rch.go (fun _ q => XS.iloadN X114.here hx rfl (hb hby at_17) rfl  q) ?_
    show Rch p e below _ T114 (mkF m 18 #[.val (.int p1), .val (.int p2), .val (.int p3), .val (.int p4), .val (.int p5), .val (.int (1 : Int32)), .val (.ref aa), .unset, .unset] [(.int p4), (.int (0 : Int32)), (.ref aa)])
    refine Rch.go (fun _ q => XS.i2b X114.here hx rfl (hb hby at_18) rfl q) ?_
    show Rch p e below _ T114 (mkF m 19 #[.val (.int p1), .val (.int p2), .val (.int p3), .val (.int p4), .val (.int p5), .val (.int (1 : Int32)), .val (.ref aa), .unset, .unset] [(.int (p4.toInt8.toInt32)), (.int (0 : Int32)), (.ref aa)])
    obtain ⟨T115, h115, X115, e115, W115, V115, st115⟩ := sdB X114 hx hZ e114 V_aa_114 (j := (0 : Int32)) (by decide) 0 (by decide) (Nat.le_of_ble_eq_true rfl) (g := (mkF m 19 #[.val (.int p1), .val (.int p2), .val (.int p3), .val (.int p4), .val (.int p5), .val (.int (1 : Int32)), .val (.ref aa), .unset, .unset] [(.int (p4.toInt8.toInt32)), (.int (0 : Int32)), (.ref aa)])) rfl rfl (hb hby at_19)
    have V_aa_115 : Arv Z h115 aa kk_aa .byte 5 [(.int (nar .byte (p4.toInt8.toInt32))), (.int 0), (.int 0), (.int 0), (.int 0)] (.int 0) := V115
    have N115 := Fr.snoc X115 N0 le_aa
    have Z115 : n0 ≤ h115.size := by rw [W115.size]; exact Z114
    refine Rch.go st115 ?_
    show Rch p e below _ T115 (mkF m 20 #[.val (.int p1), .val (.int p2), .val (.int p3), .val (.int p4), .val (.int p5), .val (.int (1 : Int32)), .val (.ref aa), .unset, .unset] [])
    refine Rch.go (fun _ q => XS.aload X115.here hx rfl (hb hby at_20) rfl rfl q) ?_
    show Rch p e below _ T115 (mkF m 22 #[.val (.int p1), .val (.int p2), .val (.int p3), .val (.int p4), .val (.int p5), .val (.int (1 : Int32)), .val (.ref aa), .unset, .unset] [(.ref aa)])
    refine Rch.go (fun _ q => XS.iconst X115.here hx rfl (hb hby at_22) q) ?_
    show Rch p e below _ T115 (mkF m 23 #[.val (.int p1), .val (.int p2), .val (.int p3), .val (.int p4), .val (.int p5), .val (.int (1 : Int32)), .val (.ref aa), .unset, .unset] [(.int (1 : Int32)), (.ref aa)])
    refine Rch.go (fun _ q => XS.iloadN X115.here hx rfl (hb hby at_23) rfl  q) ?_
    show Rch p e below _ T115 (mkF m 24 #[.val (.int p1), .val (.int p2), .val (.int p3), .val (.int p4), .val (.int p5), .val (.int (1 : Int32)), .val (.ref aa), .unset, .unset] [(.int p4), (.int (1 : Int32)), (.ref aa)])
    refine Rch.go (fun _ q => XS.bipush X115.here hx rfl (hb hby at_24) q) ?_
    show Rch p e below _ T115 (mkF m 26 #[.val (.int p1), .val (.int p2), .val (.int p3), .val (.int p4), .val (.int p5), .val (.int (1 : Int32)), .val (.ref aa), .unset, .unset] [(.int (8 : Int32)), (.int p4), (.int (1 : Int32)), (.ref aa)])
    refine Rch.go (fun _ q => XS.iushr X115.here hx rfl (hb hby at_26) rfl q) ?_
    show Rch p e below _ T115 (mkF m 27 #[.val (.int p1), .val (.int p2), .val (.int p3), .val (.int p4), .val (.int p5), .val (.int (1 : Int32)), .val (.ref aa), .unset, .unset] [(.int ((p4.toUInt32 >>> ((8 : Int32) &&& 31).toUInt32).toInt32)), (.int (1 : Int32)), (.ref aa)])
    refine Rch.go (fun _ q => XS.i2b X115.here hx rfl (hb hby at_27) rfl q) ?_
    show Rch p e below _ T115 (mkF m 28 #[.val (.int p1), .val (.int p2), .val (.int p3), .val (.int p4), .val (.int p5), .val (.int (1 : Int32)), .val (.ref aa), .unset, .unset] [(.int (((p4.toUInt32 >>> ((8 : Int32) &&& 31).toUInt32).toInt32).toInt8.toInt32)), (.int (1 : Int32)), (.ref aa)])
    obtain ⟨T116, h116, X116, e116, W116, V116, st116⟩ := sdB X115 hx hZ e115 V_aa_115 (j := (1 : Int32)) (by decide) 1 (by decide) (Nat.le_of_ble_eq_true rfl) (g := (mkF m 28 #[.val (.int p1), .val (.int p2), .val (.int p3), .val (.int p4), .val (.int p5), .val (.int (1 : Int32)), .val (.ref aa), .unset, .unset] [(.int (((p4.toUInt32 >>> ((8 : Int32) &&& 31).toUInt32).toInt32).toInt8.toInt32)), (.int (1 : Int32)), (.ref aa)])) rfl rfl (hb hby at_28)
    have V_aa_116 : Arv Z h116 aa kk_aa .byte 5 [(.int (nar .byte (p4.toInt8.toInt32))), (.int (nar .byte (((p4.toUInt32 >>> ((8 : Int32) &&& 31).toUInt32).toInt32).toInt8.toInt32))), (.int 0), (.int 0), (.int 0)] (.int 0) := V116
    have N116 := Fr.snoc X116 N115 le_aa
    have Z116 : n0 ≤ h116.size := by rw [W116.size]; exact Z115
    refine Rch.go st116 ?_
    show Rch p e below _ T116 (mkF m 29 #[.val (.int p1), .val (.int p2), .val (.int p3), .val (.int p4), .val (.int p5), .val (.int (1 : Int32)), .val (.ref aa), .unset, .unset] [])
    refine Rch.go (fun _ q => XS.aload X116.here hx rfl (hb hby at_29) rfl rfl q) ?_
    show Rch p e below _ T116 (mkF m 31 #[.val (.int p1), .val (.int p2), .val (.int p3), .val (.int p4), .val (.int p5), .val (.int (1 : Int32)), .val (.ref aa), .unset, .unset] [(.ref aa)])
    refine Rch.go (fun _ q => XS.iconst X116.here hx rfl (hb hby at_31) q) ?_
    show Rch p e below _ T116 (mkF m 32 #[.val (.int p1), .val (.int p2), .val (.int p3), .val (.int p4), .val (.int p5), .val (.int (1 : Int32)), .val (.ref aa), .unset, .unset] [(.int (2 : Int32)), (.ref aa)])
    refine Rch.go (fun _ q => XS.iloadN X116.here hx rfl (hb hby at_32) rfl  q) ?_
    show Rch p e below _ T116 (mkF m 33 #[.val (.int p1), .val (.int p2), .val (.int p3), .val (.int p4), .val (.int p5), .val (.int (1 : Int32)), .val (.ref aa), .unset, .unset] [(.int p4), (.int (2 : Int32)), (.ref aa)])
    refine Rch.go (fun _ q => XS.bipush X116.here hx rfl (hb hby at_33) q) ?_
    show Rch p e below _ T116 (mkF m 35 #[.val (.int p1), .val (.int p2), .val (.int p3), .val (.int p4), .val (.int p5), .val (.int (1 : Int32)), .val (.ref aa), .unset, .unset] [(.int (16 : Int32)), (.int p4), (.int (2 : Int32)), (.ref aa)])
    refine Rch.go (fun _ q => XS.iushr X116.here hx rfl (hb hby at_35) rfl q) ?_
    show Rch p e below _ T116 (mkF m 36 #[.val (.int p1), .val (.int p2), .val (.int p3), .val (.int p4), .val (.int p5), .val (.int (1 : Int32)), .val (.ref aa), .unset, .unset] [(.int ((p4.toUInt32 >>> ((16 : Int32) &&& 31).toUInt32).toInt32)), (.int (2 : Int32)), (.ref aa)])
    refine Rch.go (fun _ q => XS.i2b X116.here hx rfl (hb hby at_36) rfl q) ?_
    show Rch p e below _ T116 (mkF m 37 #[.val (.int p1), .val (.int p2), .val (.int p3), .val (.int p4), .val (.int p5), .val (.int (1 : Int32)), .val (.ref aa), .unset, .unset] [(.int (((p4.toUInt32 >>> ((16 : Int32) &&& 31).toUInt32).toInt32).toInt8.toInt32)), (.int (2 : Int32)), (.ref aa)])
    obtain ⟨T117, h117, X117, e117, W117, V117, st117⟩ := sdB X116 hx hZ e116 V_aa_116 (j := (2 : Int32)) (by decide) 2 (by decide) (Nat.le_of_ble_eq_true rfl) (g := (mkF m 37 #[.val (.int p1), .val (.int p2), .val (.int p3), .val (.int p4), .val (.int p5), .val (.int (1 : Int32)), .val (.ref aa), .unset, .unset] [(.int (((p4.toUInt32 >>> ((16 : Int32) &&& 31).toUInt32).toInt32).toInt8.toInt32)), (.int (2 : Int32)), (.ref aa)])) rfl rfl (hb hby at_37)
    have V_aa_117 : Arv Z h117 aa kk_aa .byte 5 [(.int (nar .byte (p4.toInt8.toInt32))), (.int (nar .byte (((p4.toUInt32 >>> ((8 : Int32) &&& 31).toUInt32).toInt32).toInt8.toInt32))), (.int (nar .byte (((p4.toUInt32 >>> ((16 : Int32) &&& 31).toUInt32).toInt32).toInt8.toInt32))), (.int 0), (.int 0)] (.int 0) := V117
    have N117 := Fr.snoc X117 N116 le_aa
    have Z117 : n0 ≤ h117.size := by rw [W117.size]; exact Z116
    refine Rch.go st117 ?_
    show Rch p e below _ T117 (mkF m 38 #[.val (.int p1), .val (.int p2), .val (.int p3), .val (.int p4), .val (.int p5), .val (.int (1 : Int32)), .val (.ref aa), .unset, .unset] [])
    refine Rch.go (fun _ q => XS.aload X117.here hx rfl (hb hby at_38) rfl rfl q) ?_
    show Rch p e below _ T117 (mkF m 40 #[.val (.int p1), .val (.int p2), .val (.int p3), .val (.int p4), .val (.int p5), .val (.int (1 : Int32)), .val (.ref aa), .unset, .unset] [(.ref aa)])
    refine Rch.go (fun _ q => XS.iconst X117.here hx rfl (hb hby at_40) q) ?_
    show Rch p e below _ T117 (mkF m 41 #[.val (.int p1), .val (.int p2), .val (.int p3), .val (.int p4), .val (.int p5), .val (.int (1 : Int32)), .val (.ref aa), .unset, .unset] [(.int (3 : Int32)), (.ref aa)])
    refine Rch.go (fun _ q => XS.iloadN X117.here hx rfl (hb hby at_41) rfl  q) ?_
    show Rch p e below _ T117 (mkF m 42 #[.val (.int p1), .val (.int p2), .val (.int p3), .val (.int p4), .val (.int p5), .val (.int (1 : Int32)), .val (.ref aa), .unset, .unset] [(.int p4), (.int (3 : Int32)), (.ref aa)])
    refine Rch.go (fun _ q => XS.bipush X117.here hx rfl (hb hby at_42) q) ?_
    show Rch p e below _ T117 (mkF m 44 #[.val (.int p1), .val (.int p2), .val (.int p3), .val (.int p4), .val (.int p5), .val (.int (1 : Int32)), .val (.ref aa), .unset, .unset] [(.int (24 : Int32)), (.int p4), (.int (3 : Int32)), (.ref aa)])
    refine Rch.go (fun _ q => XS.iushr X117.here hx rfl (hb hby at_44) rfl q) ?_
    show Rch p e below _ T117 (mkF m 45 #[.val (.int p1), .val (.int p2), .val (.int p3), .val (.int p4), .val (.int p5), .val (.int (1 : Int32)), .val (.ref aa), .unset, .unset] [(.int ((p4.toUInt32 >>> ((24 : Int32) &&& 31).toUInt32).toInt32)), (.int (3 : Int32)), (.ref aa)])
    refine Rch.go (fun _ q => XS.i2b X117.here hx rfl (hb hby at_45) rfl q) ?_
    show Rch p e below _ T117 (mkF m 46 #[.val (.int p1), .val (.int p2), .val (.int p3), .val (.int p4), .val (.int p5), .val (.int (1 : Int32)), .val (.ref aa), .unset, .unset] [(.int (((p4.toUInt32 >>> ((24 : Int32) &&& 31).toUInt32).toInt32).toInt8.toInt32)), (.int (3 : Int32)), (.ref aa)])
    obtain ⟨T118, h118, X118, e118, W118, V118, st118⟩ := sdB X117 hx hZ e117 V_aa_117 (j := (3 : Int32)) (by decide) 3 (by decide) (Nat.le_of_ble_eq_true rfl) (g := (mkF m 46 #[.val (.int p1), .val (.int p2), .val (.int p3), .val (.int p4), .val (.int p5), .val (.int (1 : Int32)), .val (.ref aa), .unset, .unset] [(.int (((p4.toUInt32 >>> ((24 : Int32) &&& 31).toUInt32).toInt32).toInt8.toInt32)), (.int (3 : Int32)), (.ref aa)])) rfl rfl (hb hby at_46)
    have V_aa_118 : Arv Z h118 aa kk_aa .byte 5 [(.int (nar .byte (p4.toInt8.toInt32))), (.int (nar .byte (((p4.toUInt32 >>> ((8 : Int32) &&& 31).toUInt32).toInt32).toInt8.toInt32))), (.int (nar .byte (((p4.toUInt32 >>> ((16 : Int32) &&& 31).toUInt32).toInt32).toInt8.toInt32))), (.int (nar .byte (((p4.toUInt32 >>> ((24 : Int32) &&& 31).toUInt32).toInt32).toInt8.toInt32))), (.int 0)] (.int 0) := V118
    have N118 := Fr.snoc X118 N117 le_aa
    have Z118 : n0 ≤ h118.size := by rw [W118.size]; exact Z117
    refine Rch.go st118 ?_
    show Rch p e below _ T118 (mkF m 47 #[.val (.int p1), .val (.int p2), .val (.int p3), .val (.int p4), .val (.int p5), .val (.int (1 : Int32)), .val (.ref aa), .unset, .unset] [])
    refine Rch.go (fun _ q => XS.aload X118.here hx rfl (hb hby at_47) rfl rfl q) ?_
    show Rch p e below _ T118 (mkF m 49 #[.val (.int p1), .val (.int p2), .val (.int p3), .val (.int p4), .val (.int p5), .val (.int (1 : Int32)), .val (.ref aa), .unset, .unset] [(.ref aa)])
    refine Rch.go (fun _ q => XS.iconst X118.here hx rfl (hb hby at_49) q) ?_
    show Rch p e below _ T118 (mkF m 50 #[.val (.int p1), .val (.int p2), .val (.int p3), .val (.int p4), .val (.int p5), .val (.int (1 : Int32)), .val (.ref aa), .unset, .unset] [(.int (4 : Int32)), (.ref aa)])
    refine Rch.go (fun _ q => XS.iloadN X118.here hx rfl (hb hby at_50) rfl  q) ?_
    show Rch p e below _ T118 (mkF m 51 #[.val (.int p1), .val (.int p2), .val (.int p3), .val (.int p4), .val (.int p5), .val (.int (1 : Int32)), .val (.ref aa), .unset, .unset] [(.int p4), (.int (4 : Int32)), (.ref aa)])
    refine Rch.go (fun _ q => XS.bipush X118.here hx rfl (hb hby at_51) q) ?_
    show Rch p e below _ T118 (mkF m 53 #[.val (.int p1), .val (.int p2), .val (.int p3), .val (.int p4), .val (.int p5), .val (.int (1 : Int32)), .val (.ref aa), .unset, .unset] [(.int (90 : Int32)), (.int p4), (.int (4 : Int32)), (.ref aa)])
    refine Rch.go (fun _ q => XS.ixor X118.here hx rfl (hb hby at_53) rfl q) ?_
    show Rch p e below _ T118 (mkF m 54 #[.val (.int p1), .val (.int p2), .val (.int p3), .val (.int p4), .val (.int p5), .val (.int (1 : Int32)), .val (.ref aa), .unset, .unset] [(.int (p4 ^^^ (90 : Int32))), (.int (4 : Int32)), (.ref aa)])
    refine Rch.go (fun _ q => XS.i2b X118.here hx rfl (hb hby at_54) rfl q) ?_
    show Rch p e below _ T118 (mkF m 55 #[.val (.int p1), .val (.int p2), .val (.int p3), .val (.int p4), .val (.int p5), .val (.int (1 : Int32)), .val (.ref aa), .unset, .unset] [(.int ((p4 ^^^ (90 : Int32)).toInt8.toInt32)), (.int (4 : Int32)), (.ref aa)])
    obtain ⟨T119, h119, X119, e119, W119, V119, st119⟩ := sdB X118 hx hZ e118 V_aa_118 (j := (4 : Int32)) (by decide) 4 (by decide) (Nat.le_of_ble_eq_true rfl) (g := (mkF m 55 #[.val (.int p1), .val (.int p2), .val (.int p3), .val (.int p4), .val (.int p5), .val (.int (1 : Int32)), .val (.ref aa), .unset, .unset] [(.int ((p4 ^^^ (90 : Int32)).toInt8.toInt32)), (.int (4 : Int32)), (.ref aa)])) rfl rfl (hb hby at_55)
    have V_aa_119 : Arv Z h119 aa kk_aa .byte 5 [(.int (nar .byte (p4.toInt8.toInt32))), (.int (nar .byte (((p4.toUInt32 >>> ((8 : Int32) &&& 31).toUInt32).toInt32).toInt8.toInt32))), (.int (nar .byte (((p4.toUInt32 >>> ((16 : Int32) &&& 31).toUInt32).toInt32).toInt8.toInt32))), (.int (nar .byte (((p4.toUInt32 >>> ((24 : Int32) &&& 31).toUInt32).toInt32).toInt8.toInt32))), (.int (nar .byte ((p4 ^^^ (90 : Int32)).toInt8.toInt32)))] (.int 0) := V119
    have N119 := Fr.snoc X119 N118 le_aa
    have Z119 : n0 ≤ h119.size := by rw [W119.size]; exact Z118
    refine Rch.go st119 ?_
    show Rch p e below _ T119 (mkF m 56 #[.val (.int p1), .val (.int p2), .val (.int p3), .val (.int p4), .val (.int p5), .val (.int (1 : Int32)), .val (.ref aa), .unset, .unset] [])
    refine Rch.go (fun _ q => XS.aload X119.here hx rfl (hb hby at_56) rfl rfl q) ?_
    show Rch p e below _ T119 (mkF m 58 #[.val (.int p1), .val (.int p2), .val (.int p3), .val (.int p4), .val (.int p5), .val (.int (1 : Int32)), .val (.ref aa), .unset, .unset] [(.ref aa)])
    refine Rch.go (fun _ q => XS.iload X119.here hx rfl (hb hby at_58) rfl  q) ?_
    show Rch p e below _ T119 (mkF m 60 #[.val (.int p1), .val (.int p2), .val (.int p3), .val (.int p4), .val (.int p5), .val (.int (1 : Int32)), .val (.ref aa), .unset, .unset] [(.int (1 : Int32)), (.ref aa)])
    refine Rch.go (fun _ q => XS.iloadN X119.here hx rfl (hb hby at_60) rfl  q) ?_
    show Rch p e below _ T119 (mkF m 61 #[.val (.int p1), .val (.int p2), .val (.int p3), .val (.int p4), .val (.int p5), .val (.int (1 : Int32)), .val (.ref aa), .unset, .unset] [(.int p1), (.int (1 : Int32)), (.ref aa)])
    refine Rch.go (fun _ q => XS.i2b X119.here hx rfl (hb hby at_61) rfl q) ?_
    show Rch p e below _ T119 (mkF m 62 #[.val (.int p1), .val (.int p2), .val (.int p3), .val (.int p4), .val (.int p5), .val (.int (1 : Int32)), .val (.ref aa), .unset, .unset] [(.int (p1.toInt8.toInt32)), (.int (1 : Int32)), (.ref aa)])
    obtain ⟨T120, h120, X120, e120, W120, V120, st120⟩ := sdB X119 hx hZ e119 V_aa_119 (j := (1 : Int32)) (by decide) 1 (by decide) (Nat.le_of_ble_eq_true rfl) (g := (mkF m 62 #[.val (.int p1), .val (.int p2), .val (.int p3), .val (.int p4), .val (.int p5), .val (.int (1 : Int32)), .val (.ref aa), .unset, .unset] [(.int (p1.toInt8.toInt32)), (.int (1 : Int32)), (.ref aa)])) rfl rfl (hb hby at_62)
    have V_aa_120 : Arv Z h120 aa kk_aa .byte 5 [(.int (nar .byte (p4.toInt8.toInt32))), (.int (nar .byte (p1.toInt8.toInt32))), (.int (nar .byte (((p4.toUInt32 >>> ((16 : Int32) &&& 31).toUInt32).toInt32).toInt8.toInt32))), (.int (nar .byte (((p4.toUInt32 >>> ((24 : Int32) &&& 31).toUInt32).toInt32).toInt8.toInt32))), (.int (nar .byte ((p4 ^^^ (90 : Int32)).toInt8.toInt32)))] (.int 0) := V120
    have N120 := Fr.snoc X120 N119 le_aa
    have Z120 : n0 ≤ h120.size := by rw [W120.size]; exact Z119
    refine Rch.go st120 ?_
    show Rch p e below _ T120 (mkF m 63 #[.val (.int p1), .val (.int p2), .val (.int p3), .val (.int p4), .val (.int p5), .val (.int (1 : Int32)), .val (.ref aa), .unset, .unset] [])
    refine Rch.go (fun _ q => XS.aload X120.here hx rfl (hb hby at_63) rfl rfl q) ?_
    show Rch p e below _ T120 (mkF m 65 #[.val (.int p1), .val (.int p2), .val (.int p3), .val (.int p4), .val (.int p5), .val (.int (1 : Int32)), .val (.ref aa), .unset, .unset] [(.ref aa)])
    refine Rch.go (fun _ q => XS.iload X120.here hx rfl (hb hby at_65) rfl  q) ?_
    show Rch p e below _ T120 (mkF m 67 #[.val (.int p1), .val (.int p2), .val (.int p3), .val (.int p4), .val (.int p5), .val (.int (1 : Int32)), .val (.ref aa), .unset, .unset] [(.int (1 : Int32)), (.ref aa)])
    refine Rch.go (fun _ q => XS.iconst X120.here hx rfl (hb hby at_67) q) ?_
    show Rch p e below _ T120 (mkF m 68 #[.val (.int p1), .val (.int p2), .val (.int p3), .val (.int p4), .val (.int p5), .val (.int (1 : Int32)), .val (.ref aa), .unset, .unset] [(.int (1 : Int32)), (.int (1 : Int32)), (.ref aa)])
    refine Rch.go (fun _ q => XS.iadd X120.here hx rfl (hb hby at_68) rfl q) ?_
    show Rch p e below _ T120 (mkF m 69 #[.val (.int p1), .val (.int p2), .val (.int p3), .val (.int p4), .val (.int p5), .val (.int (1 : Int32)), .val (.ref aa), .unset, .unset] [(.int ((1 : Int32) + (1 : Int32))), (.ref aa)])
    refine Rch.go (fun _ q => XS.iloadN X120.here hx rfl (hb hby at_69) rfl  q) ?_
    show Rch p e below _ T120 (mkF m 70 #[.val (.int p1), .val (.int p2), .val (.int p3), .val (.int p4), .val (.int p5), .val (.int (1 : Int32)), .val (.ref aa), .unset, .unset] [(.int p2), (.int ((1 : Int32) + (1 : Int32))), (.ref aa)])
    refine Rch.go (fun _ q => XS.i2b X120.here hx rfl (hb hby at_70) rfl q) ?_
    show Rch p e below _ T120 (mkF m 71 #[.val (.int p1), .val (.int p2), .val (.int p3), .val (.int p4), .val (.int p5), .val (.int (1 : Int32)), .val (.ref aa), .unset, .unset] [(.int (p2.toInt8.toInt32)), (.int ((1 : Int32) + (1 : Int32))), (.ref aa)])
    obtain ⟨T121, h121, X121, e121, W121, V121, st121⟩ := sdB X120 hx hZ e120 V_aa_120 (j := ((1 : Int32) + (1 : Int32))) (by decide) 2 (by decide) (Nat.le_of_ble_eq_true rfl) (g := (mkF m 71 #[.val (.int p1), .val (.int p2), .val (.int p3), .val (.int p4), .val (.int p5), .val (.int (1 : Int32)), .val (.ref aa), .unset, .unset] [(.int (p2.toInt8.toInt32)), (.int ((1 : Int32) + (1 : Int32))), (.ref aa)])) rfl rfl (hb hby at_71)
    have V_aa_121 : Arv Z h121 aa kk_aa .byte 5 [(.int (nar .byte (p4.toInt8.toInt32))), (.int (nar .byte (p1.toInt8.toInt32))), (.int (nar .byte (p2.toInt8.toInt32))), (.int (nar .byte (((p4.toUInt32 >>> ((24 : Int32) &&& 31).toUInt32).toInt32).toInt8.toInt32))), (.int (nar .byte ((p4 ^^^ (90 : Int32)).toInt8.toInt32)))] (.int 0) := V121
    have N121 := Fr.snoc X121 N120 le_aa
    have Z121 : n0 ≤ h121.size := by rw [W121.size]; exact Z120
    refine Rch.go st121 ?_
    show Rch p e below _ T121 (mkF m 72 #[.val (.int p1), .val (.int p2), .val (.int p3), .val (.int p4), .val (.int p5), .val (.int (1 : Int32)), .val (.ref aa), .unset, .unset] [])
    refine Rch.go (fun _ q => XS.aload X121.here hx rfl (hb hby at_72) rfl rfl q) ?_
    show Rch p e below _ T121 (mkF m 74 #[.val (.int p1), .val (.int p2), .val (.int p3), .val (.int p4), .val (.int p5), .val (.int (1 : Int32)), .val (.ref aa), .unset, .unset] [(.ref aa)])
    refine Rch.go (fun _ q => XS.iload X121.here hx rfl (hb hby at_74) rfl  q) ?_
    show Rch p e below _ T121 (mkF m 76 #[.val (.int p1), .val (.int p2), .val (.int p3), .val (.int p4), .val (.int p5), .val (.int (1 : Int32)), .val (.ref aa), .unset, .unset] [(.int (1 : Int32)), (.ref aa)])
    refine Rch.go (fun _ q => XS.iconst X121.here hx rfl (hb hby at_76) q) ?_
    show Rch p e below _ T121 (mkF m 77 #[.val (.int p1), .val (.int p2), .val (.int p3), .val (.int p4), .val (.int p5), .val (.int (1 : Int32)), .val (.ref aa), .unset, .unset] [(.int (2 : Int32)), (.int (1 : Int32)), (.ref aa)])
    refine Rch.go (fun _ q => XS.iadd X121.here hx rfl (hb hby at_77) rfl q) ?_
    show Rch p e below _ T121 (mkF m 78 #[.val (.int p1), .val (.int p2), .val (.int p3), .val (.int p4), .val (.int p5), .val (.int (1 : Int32)), .val (.ref aa), .unset, .unset] [(.int ((1 : Int32) + (2 : Int32))), (.ref aa)])
    refine Rch.go (fun _ q => XS.iloadN X121.here hx rfl (hb hby at_78) rfl  q) ?_
    show Rch p e below _ T121 (mkF m 79 #[.val (.int p1), .val (.int p2), .val (.int p3), .val (.int p4), .val (.int p5), .val (.int (1 : Int32)), .val (.ref aa), .unset, .unset] [(.int p3), (.int ((1 : Int32) + (2 : Int32))), (.ref aa)])
    refine Rch.go (fun _ q => XS.i2b X121.here hx rfl (hb hby at_79) rfl q) ?_
    show Rch p e below _ T121 (mkF m 80 #[.val (.int p1), .val (.int p2), .val (.int p3), .val (.int p4), .val (.int p5), .val (.int (1 : Int32)), .val (.ref aa), .unset, .unset] [(.int (p3.toInt8.toInt32)), (.int ((1 : Int32) + (2 : Int32))), (.ref aa)])
    obtain ⟨T122, h122, X122, e122, W122, V122, st122⟩ := sdB X121 hx hZ e121 V_aa_121 (j := ((1 : Int32) + (2 : Int32))) (by decide) 3 (by decide) (Nat.le_of_ble_eq_true rfl) (g := (mkF m 80 #[.val (.int p1), .val (.int p2), .val (.int p3), .val (.int p4), .val (.int p5), .val (.int (1 : Int32)), .val (.ref aa), .unset, .unset] [(.int (p3.toInt8.toInt32)), (.int ((1 : Int32) + (2 : Int32))), (.ref aa)])) rfl rfl (hb hby at_80)
    have V_aa_122 : Arv Z h122 aa kk_aa .byte 5 [(.int (nar .byte (p4.toInt8.toInt32))), (.int (nar .byte (p1.toInt8.toInt32))), (.int (nar .byte (p2.toInt8.toInt32))), (.int (nar .byte (p3.toInt8.toInt32))), (.int (nar .byte ((p4 ^^^ (90 : Int32)).toInt8.toInt32)))] (.int 0) := V122
    have N122 := Fr.snoc X122 N121 le_aa
    have Z122 : n0 ≤ h122.size := by rw [W122.size]; exact Z121
    refine Rch.go st122 ?_
    show Rch p e below _ T122 (mkF m 81 #[.val (.int p1), .val (.int p2), .val (.int p3), .val (.int p4), .val (.int p5), .val (.int (1 : Int32)), .val (.ref aa), .unset, .unset] [])
    refine Rch.go (fun _ q => XS.iloadN X122.here hx rfl (hb hby at_81) rfl  q) ?_
    show Rch p e below _ T122 (mkF m 82 #[.val (.int p1), .val (.int p2), .val (.int p3), .val (.int p4), .val (.int p5), .val (.int (1 : Int32)), .val (.ref aa), .unset, .unset] [(.int p1)])
    refine Rch.go (fun _ q => XS.i2b X122.here hx rfl (hb hby at_82) rfl q) ?_
    show Rch p e below _ T122 (mkF m 83 #[.val (.int p1), .val (.int p2), .val (.int p3), .val (.int p4), .val (.int p5), .val (.int (1 : Int32)), .val (.ref aa), .unset, .unset] [(.int (p1.toInt8.toInt32))])
    obtain ⟨_, _, ⟨T123, L123, k123, n123⟩, -, X123, ⟨Lc123, hQ123, l123, y123, z123⟩, st123⟩ := Jvm.LawKit.callS X122 hx (y := (⟨"com/example/tessera/tessera/LittleEndianGetUnsignedInt24PinLaw", "u", "(B)I"⟩ : MethodName)) hown (mvT hZ (hw _ (List.mem_of_getElem? (i := 2) rfl))) (mvT hZ (hw _ (List.mem_of_getElem? (i := 3) rfl))) (mvT hZ (hw _ (List.mem_of_getElem? (i := 4) rfl))) (mvT hZ (hw _ (List.mem_of_getElem? (i := 5) rfl))) (by decide) (backOf (W := 0) (rm1 l Z a0 hw [] (p1.toInt8.toInt32) h122 n0 Z122) hZ (hw _ (List.mem_of_getElem? (i := 5) rfl)) (hw _ (List.mem_of_getElem? (i := 4) rfl)) (by decide) (by decide)) (g := (mkF m 83 #[.val (.int p1), .val (.int p2), .val (.int p3), .val (.int p4), .val (.int p5), .val (.int (1 : Int32)), .val (.ref aa), .unset, .unset] [(.int (p1.toInt8.toInt32))])) rfl (by rw [hml]; rfl) (argsL := [(.int (p1.toInt8.toInt32))]) (rest := []) (lenOf own_pd0 rfl) rfl (by show 2 * 0 + _ ≤ _; exact Nat.le_of_eq rfl) (hb hby at_83) (fun _ _ => ⟨rfl, e122, (by decide : 1 + 0 ≤ _), (by decide : 5 + 0 ≤ _)⟩)
    dsimp only [Pt.U, Pt.locs, Pt.cells, Pt.slots] at X123 l123 y123 z123 st123 hQ123
    subst l123 y123 z123
    obtain ⟨rfl, Nc, ec⟩ := hQ123
    refine Rch.go st123 ?_
    show Rch p e below _ T123 (mkF m 86 #[.val (.int p1), .val (.int p2), .val (.int p3), .val (.int p4), .val (.int p5), .val (.int (1 : Int32)), .val (.ref aa), .unset, .unset] [(.int (own_u (p1.toInt8.toInt32)))])
    have N123 := Fr.app N122 Nc
    have e123 := ec
    refine Rch.go (fun _ q => XS.sipush X123.here hx rfl (hb hby at_86) q) ?_
    show Rch p e below _ T123 (mkF m 89 #[.val (.int p1), .val (.int p2), .val (.int p3), .val (.int p4), .val (.int p5), .val (.int (1 : Int32)), .val (.ref aa), .unset, .unset] [(.int (256 : Int32)), (.int (own_u (p1.toInt8.toInt32)))])
    refine Rch.go (fun _ q => XS.iloadN X123.here hx rfl (hb hby at_89) rfl  q) ?_
    show Rch p e below _ T123 (mkF m 90 #[.val (.int p1), .val (.int p2), .val (.int p3), .val (.int p4), .val (.int p5), .val (.int (1 : Int32)), .val (.ref aa), .unset, .unset] [(.int p2), (.int (256 : Int32)), (.int (own_u (p1.toInt8.toInt32)))])
    refine Rch.go (fun _ q => XS.i2b X123.here hx rfl (hb hby at_90) rfl q) ?_
    show Rch p e below _ T123 (mkF m 91 #[.val (.int p1), .val (.int p2), .val (.int p3), .val (.int p4), .val (.int p5), .val (.int (1 : Int32)), .val (.ref aa), .unset, .unset] [(.int (p2.toInt8.toInt32)), (.int (256 : Int32)), (.int (own_u (p1.toInt8.toInt32)))])
    obtain ⟨_, _, ⟨T124, L124, k124, n124⟩, -, X124, ⟨Lc124, hQ124, l124, y124, z124⟩, st124⟩ := Jvm.LawKit.callS X123 hx (y := (⟨"com/example/tessera/tessera/LittleEndianGetUnsignedInt24PinLaw", "u", "(B)I"⟩ : MethodName)) hown (mvT hZ (hw _ (List.mem_of_getElem? (i := 2) rfl))) (mvT hZ (hw _ (List.mem_of_getElem? (i := 3) rfl))) (mvT hZ (hw _ (List.mem_of_getElem? (i := 4) rfl))) (mvT hZ (hw _ (List.mem_of_getElem? (i := 5) rfl))) (by decide) (backOf (W := 2) (rm1 l Z a0 hw [] (p2.toInt8.toInt32) h122 n0 Z122) hZ (hw _ (List.mem_of_getElem? (i := 5) rfl)) (hw _ (List.mem_of_getElem? (i := 4) rfl)) (by decide) (by decide)) (g := (mkF m 91 #[.val (.int p1), .val (.int p2), .val (.int p3), .val (.int p4), .val (.int p5), .val (.int (1 : Int32)), .val (.ref aa), .unset, .unset] [(.int (p2.toInt8.toInt32)), (.int (256 : Int32)), (.int (own_u (p1.toInt8.toInt32)))])) rfl (by rw [hml]; rfl) (argsL := [(.int (p2.toInt8.toInt32))]) (rest := [(.int (256 : Int32)), (.int (own_u (p1.toInt8.toInt32)))]) (lenOf own_pd0 rfl) rfl (by show 2 * 0 + _ ≤ _; exact Nat.le_of_eq rfl) (hb hby at_91) (fun _ _ => ⟨rfl, e123, (by decide : 1 + 0 ≤ _), (by decide : 5 + 0 ≤ _)⟩)
    dsimp only [Pt.U, Pt.locs, Pt.cells, Pt.slots] at X124 l124 y124 z124 st124 hQ124
    subst l124 y124 z124
    obtain ⟨rfl, Nc, ec⟩ := hQ124
    refine Rch.go st124 ?_
    show Rch p e below _ T124 (mkF m 94 #[.val (.int p1), .val (.int p2), .val (.int p3), .val (.int p4), .val (.int p5), .val (.int (1 : Int32)), .val (.ref aa), .unset, .unset] [(.int (own_u (p2.toInt8.toInt32))), (.int (256 : Int32)), (.int (own_u (p1.toInt8.toInt32)))])
    have N124 := Fr.app N123 Nc
    have e124 := ec
    refine Rch.go (fun _ q => XS.imul X124.here hx rfl (hb hby at_94) rfl q) ?_
    show Rch p e below _ T124 (mkF m 95 #[.val (.int p1), .val (.int p2), .val (.int p3), .val (.int p4), .val (.int p5), .val (.int (1 : Int32)), .val (.ref aa), .unset, .unset] [(.int ((256 : Int32) * (own_u (p2.toInt8.toInt32)))), (.int (own_u (p1.toInt8.toInt32)))])
    refine Rch.go (fun _ q => XS.iadd X124.here hx rfl (hb hby at_95) rfl q) ?_
    show Rch p e below _ T124 (mkF m 96 #[.val (.int p1), .val (.int p2), .val (.int p3), .val (.int p4), .val (.int p5), .val (.int (1 : Int32)), .val (.ref aa), .unset, .unset] [(.int ((own_u (p1.toInt8.toInt32)) + ((256 : Int32) * (own_u (p2.toInt8.toInt32)))))])
    refine Rch.go (fun _ q => X124.ldcI hx (own := "com/example/tessera/tessera/LittleEndianGetUnsignedInt24PinLaw") hown (mvT hZ (hw _ (List.mem_of_getElem? (i := 6) rfl))) rfl (hb hby at_96) q) ?_
    show Rch p e below _ T124 (mkF m 98 #[.val (.int p1), .val (.int p2), .val (.int p3), .val (.int p4), .val (.int p5), .val (.int (1 : Int32)), .val (.ref aa), .unset, .unset] [(.int (65536 : Int32)), (.int ((own_u (p1.toInt8.toInt32)) + ((256 : Int32) * (own_u (p2.toInt8.toInt32)))))])
    refine Rch.go (fun _ q => XS.iloadN X124.here hx rfl (hb hby at_98) rfl  q) ?_
    show Rch p e below _ T124 (mkF m 99 #[.val (.int p1), .val (.int p2), .val (.int p3), .val (.int p4), .val (.int p5), .val (.int (1 : Int32)), .val (.ref aa), .unset, .unset] [(.int p3), (.int (65536 : Int32)), (.int ((own_u (p1.toInt8.toInt32)) + ((256 : Int32) * (own_u (p2.toInt8.toInt32)))))])
    refine Rch.go (fun _ q => XS.i2b X124.here hx rfl (hb hby at_99) rfl q) ?_
    show Rch p e below _ T124 (mkF m 100 #[.val (.int p1), .val (.int p2), .val (.int p3), .val (.int p4), .val (.int p5), .val (.int (1 : Int32)), .val (.ref aa), .unset, .unset] [(.int (p3.toInt8.toInt32)), (.int (65536 : Int32)), (.int ((own_u (p1.toInt8.toInt32)) + ((256 : Int32) * (own_u (p2.toInt8.toInt32)))))])
    obtain ⟨_, _, ⟨T125, L125, k125, n125⟩, -, X125, ⟨Lc125, hQ125, l125, y125, z125⟩, st125⟩ := Jvm.LawKit.callS X124 hx (y := (⟨"com/example/tessera/tessera/LittleEndianGetUnsignedInt24PinLaw", "u", "(B)I"⟩ : MethodName)) hown (mvT hZ (hw _ (List.mem_of_getElem? (i := 2) rfl))) (mvT hZ (hw _ (List.mem_of_getElem? (i := 3) rfl))) (mvT hZ (hw _ (List.mem_of_getElem? (i := 4) rfl))) (mvT hZ (hw _ (List.mem_of_getElem? (i := 5) rfl))) (by decide) (backOf (W := 2) (rm1 l Z a0 hw [] (p3.toInt8.toInt32) h122 n0 Z122) hZ (hw _ (List.mem_of_getElem? (i := 5) rfl)) (hw _ (List.mem_of_getElem? (i := 4) rfl)) (by decide) (by decide)) (g := (mkF m 100 #[.val (.int p1), .val (.int p2), .val (.int p3), .val (.int p4), .val (.int p5), .val (.int (1 : Int32)), .val (.ref aa), .unset, .unset] [(.int (p3.toInt8.toInt32)), (.int (65536 : Int32)), (.int ((own_u (p1.toInt8.toInt32)) + ((256 : Int32) * (own_u (p2.toInt8.toInt32)))))])) rfl (by rw [hml]; rfl) (argsL := [(.int (p3.toInt8.toInt32))]) (rest := [(.int (65536 : Int32)), (.int ((own_u (p1.toInt8.toInt32)) + ((256 : Int32) * (own_u (p2.toInt8.toInt32)))))]) (lenOf own_pd0 rfl) rfl (by show 2 * 0 + _ ≤ _; exact Nat.le_of_eq rfl) (hb hby at_100) (fun _ _ => ⟨rfl, e124, (by decide : 1 + 0 ≤ _), (by decide : 5 + 0 ≤ _)⟩)
    dsimp only [Pt.U, Pt.locs, Pt.cells, Pt.slots] at X125 l125 y125 z125 st125 hQ125
    subst l125 y125 z125
    obtain ⟨rfl, Nc, ec⟩ := hQ125
    refine Rch.go st125 ?_
    show Rch p e below _ T125 (mkF m 103 #[.val (.int p1), .val (.int p2), .val (.int p3), .val (.int p4), .val (.int p5), .val (.int (1 : Int32)), .val (.ref aa), .unset, .unset] [(.int (own_u (p3.toInt8.toInt32))), (.int (65536 : Int32)), (.int ((own_u (p1.toInt8.toInt32)) + ((256 : Int32) * (own_u (p2.toInt8.toInt32)))))])
    have N125 := Fr.app N124 Nc
    have e125 := ec
    refine Rch.go (fun _ q => XS.imul X125.here hx rfl (hb hby at_103) rfl q) ?_
    show Rch p e below _ T125 (mkF m 104 #[.val (.int p1), .val (.int p2), .val (.int p3), .val (.int p4), .val (.int p5), .val (.int (1 : Int32)), .val (.ref aa), .unset, .unset] [(.int ((65536 : Int32) * (own_u (p3.toInt8.toInt32)))), (.int ((own_u (p1.toInt8.toInt32)) + ((256 : Int32) * (own_u (p2.toInt8.toInt32)))))])
    refine Rch.go (fun _ q => XS.iadd X125.here hx rfl (hb hby at_104) rfl q) ?_
    show Rch p e below _ T125 (mkF m 105 #[.val (.int p1), .val (.int p2), .val (.int p3), .val (.int p4), .val (.int p5), .val (.int (1 : Int32)), .val (.ref aa), .unset, .unset] [(.int (((own_u (p1.toInt8.toInt32)) + ((256 : Int32) * (own_u (p2.toInt8.toInt32)))) + ((65536 : Int32) * (own_u (p3.toInt8.toInt32)))))])
    refine Rch.go (fun _ q => XS.istore X125.here hx rfl (hb hby at_105) rfl (l' := #[.val (.int p1), .val (.int p2), .val (.int p3), .val (.int p4), .val (.int p5), .val (.int (1 : Int32)), .val (.ref aa), .val (.int (((own_u (p1.toInt8.toInt32)) + ((256 : Int32) * (own_u (p2.toInt8.toInt32)))) + ((65536 : Int32) * (own_u (p3.toInt8.toInt32))))), .unset]) rfl q) ?_
    show Rch p e below _ T125 (mkF m 107 #[.val (.int p1), .val (.int p2), .val (.int p3), .val (.int p4), .val (.int p5), .val (.int (1 : Int32)), .val (.ref aa), .val (.int (((own_u (p1.toInt8.toInt32)) + ((256 : Int32) * (own_u (p2.toInt8.toInt32)))) + ((65536 : Int32) * (own_u (p3.toInt8.toInt32))))), .unset] [])
    refine Rch.go (fun _ q => XS.aload X125.here hx rfl (hb hby at_107) rfl rfl q) ?_
    show Rch p e below _ T125 (mkF m 109 #[.val (.int p1), .val (.int p2), .val (.int p3), .val (.int p4), .val (.int p5), .val (.int (1 : Int32)), .val (.ref aa), .val (.int (((own_u (p1.toInt8.toInt32)) + ((256 : Int32) * (own_u (p2.toInt8.toInt32)))) + ((65536 : Int32) * (own_u (p3.toInt8.toInt32))))), .unset] [(.ref aa)])
    refine Rch.go (fun _ q => XS.iload X125.here hx rfl (hb hby at_109) rfl  q) ?_
    show Rch p e below _ T125 (mkF m 111 #[.val (.int p1), .val (.int p2), .val (.int p3), .val (.int p4), .val (.int p5), .val (.int (1 : Int32)), .val (.ref aa), .val (.int (((own_u (p1.toInt8.toInt32)) + ((256 : Int32) * (own_u (p2.toInt8.toInt32)))) + ((65536 : Int32) * (own_u (p3.toInt8.toInt32))))), .unset] [(.int (1 : Int32)), (.ref aa)])
    obtain ⟨_, _, ⟨T126, L126, k126, n126⟩, -, X126, ⟨Lc126, hQ126, l126, y126, z126⟩, st126⟩ := Jvm.LawKit.callS X125 hx (y := (⟨"com/example/tessera/tessera/LittleEndian", "getUnsignedInt24", "([BI)I"⟩ : MethodName)) hown (mvT hZ (hw _ (List.mem_of_getElem? (i := 7) rfl))) (mvT hZ (hw _ (List.mem_of_getElem? (i := 8) rfl))) (mvT hZ (hw _ (List.mem_of_getElem? (i := 9) rfl))) (mvT hZ (hw _ (List.mem_of_getElem? (i := 10) rfl))) (by decide) (backOf (W := 0) (rm2 l Z a0 hw [] aa (1 : Int32) kk_aa 5 [(.int (nar .byte (p4.toInt8.toInt32))), (.int (nar .byte (p1.toInt8.toInt32))), (.int (nar .byte (p2.toInt8.toInt32))), (.int (nar .byte (p3.toInt8.toInt32))), (.int (nar .byte ((p4 ^^^ (90 : Int32)).toInt8.toInt32)))] (.int 0) (nar .byte (p1.toInt8.toInt32)) (nar .byte (p2.toInt8.toInt32)) (nar .byte (p3.toInt8.toInt32)) h122 n0 Z122 V_aa_122 (by decide) rfl (by decide) rfl (by decide) rfl) hZ (hw _ (List.mem_of_getElem? (i := 10) rfl)) (hw _ (List.mem_of_getElem? (i := 9) rfl)) (by decide) (by decide)) (g := (mkF m 111 #[.val (.int p1), .val (.int p2), .val (.int p3), .val (.int p4), .val (.int p5), .val (.int (1 : Int32)), .val (.ref aa), .val (.int (((own_u (p1.toInt8.toInt32)) + ((256 : Int32) * (own_u (p2.toInt8.toInt32)))) + ((65536 : Int32) * (own_u (p3.toInt8.toInt32))))), .unset] [(.int (1 : Int32)), (.ref aa)])) rfl (by rw [hml]; rfl) (argsL := [(.ref aa), (.int (1 : Int32))]) (rest := []) (lenOf own_pd1 rfl) rfl (by show 2 * 0 + _ ≤ _; exact Nat.le_of_eq rfl) (hb hby at_111) (fun _ _ => ⟨rfl, e125, (by decide : 1 + 0 ≤ _), (by decide : 5 + 0 ≤ _)⟩)
    dsimp only [Pt.U, Pt.locs, Pt.cells, Pt.slots] at X126 l126 y126 z126 st126 hQ126
    subst l126 y126 z126
    obtain ⟨rfl, Nc, ec⟩ := hQ126
    refine Rch.go st126 ?_
    show Rch p e below _ T126 (mkF m 114 #[.val (.int p1), .val (.int p2), .val (.int p3), .val (.int p4), .val (.int p5), .val (.int (1 : Int32)), .val (.ref aa), .val (.int (((own_u (p1.toInt8.toInt32)) + ((256 : Int32) * (own_u (p2.toInt8.toInt32)))) + ((65536 : Int32) * (own_u (p3.toInt8.toInt32))))), .unset] [(.int (own_le (nar .byte (p1.toInt8.toInt32)) (nar .byte (p2.toInt8.toInt32)) (nar .byte (p3.toInt8.toInt32))))])
    have N126 := Fr.app N125 Nc
    have e126 := ec
    refine Rch.go (fun _ q => XS.istore X126.here hx rfl (hb hby at_114) rfl (l' := #[.val (.int p1), .val (.int p2), .val (.int p3), .val (.int p4), .val (.int p5), .val (.int (1 : Int32)), .val (.ref aa), .val (.int (((own_u (p1.toInt8.toInt32)) + ((256 : Int32) * (own_u (p2.toInt8.toInt32)))) + ((65536 : Int32) * (own_u (p3.toInt8.toInt32))))), .val (.int (own_le (nar .byte (p1.toInt8.toInt32)) (nar .byte (p2.toInt8.toInt32)) (nar .byte (p3.toInt8.toInt32))))]) rfl q) ?_
    show Rch p e below _ T126 (mkF m 116 #[.val (.int p1), .val (.int p2), .val (.int p3), .val (.int p4), .val (.int p5), .val (.int (1 : Int32)), .val (.ref aa), .val (.int (((own_u (p1.toInt8.toInt32)) + ((256 : Int32) * (own_u (p2.toInt8.toInt32)))) + ((65536 : Int32) * (own_u (p3.toInt8.toInt32))))), .val (.int (own_le (nar .byte (p1.toInt8.toInt32)) (nar .byte (p2.toInt8.toInt32)) (nar .byte (p3.toInt8.toInt32))))] [])
    refine Rch.go (fun _ q => XS.iload X126.here hx rfl (hb hby at_116) rfl  q) ?_
    show Rch p e below _ T126 (mkF m 118 #[.val (.int p1), .val (.int p2), .val (.int p3), .val (.int p4), .val (.int p5), .val (.int (1 : Int32)), .val (.ref aa), .val (.int (((own_u (p1.toInt8.toInt32)) + ((256 : Int32) * (own_u (p2.toInt8.toInt32)))) + ((65536 : Int32) * (own_u (p3.toInt8.toInt32))))), .val (.int (own_le (nar .byte (p1.toInt8.toInt32)) (nar .byte (p2.toInt8.toInt32)) (nar .byte (p3.toInt8.toInt32))))] [(.int (own_le (nar .byte (p1.toInt8.toInt32)) (nar .byte (p2.toInt8.toInt32)) (nar .byte (p3.toInt8.toInt32))))])
    refine Rch.go (fun _ q => XS.iload X126.here hx rfl (hb hby at_118) rfl  q) ?_
    show Rch p e below _ T126 (mkF m 120 #[.val (.int p1), .val (.int p2), .val (.int p3), .val (.int p4), .val (.int p5), .val (.int (1 : Int32)), .val (.ref aa), .val (.int (((own_u (p1.toInt8.toInt32)) + ((256 : Int32) * (own_u (p2.toInt8.toInt32)))) + ((65536 : Int32) * (own_u (p3.toInt8.toInt32))))), .val (.int (own_le (nar .byte (p1.toInt8.toInt32)) (nar .byte (p2.toInt8.toInt32)) (nar .byte (p3.toInt8.toInt32))))] [(.int (((own_u (p1.toInt8.toInt32)) + ((256 : Int32) * (own_u (p2.toInt8.toInt32)))) + ((65536 : Int32) * (own_u (p3.toInt8.toInt32))))), (.int (own_le (nar .byte (p1.toInt8.toInt32)) (nar .byte (p2.toInt8.toInt32)) (nar .byte (p3.toInt8.toInt32))))])
    refine Rch.go (fun _ q => XS.icmpNo X126.here hx rfl (hb hby at_120) rfl (teq (own_law p1 p2 p3)).2 q) ?_
    show Rch p e below _ T126 (mkF m 123 #[.val (.int p1), .val (.int p2), .val (.int p3), .val (.int p4), .val (.int p5), .val (.int (1 : Int32)), .val (.ref aa), .val (.int (((own_u (p1.toInt8.toInt32)) + ((256 : Int32) * (own_u (p2.toInt8.toInt32)))) + ((65536 : Int32) * (own_u (p3.toInt8.toInt32))))), .val (.int (own_le (nar .byte (p1.toInt8.toInt32)) (nar .byte (p2.toInt8.toInt32)) (nar .byte (p3.toInt8.toInt32))))] [])
    refine Rch.go (fun _ q => XS.iload X126.here hx rfl (hb hby at_123) rfl  q) ?_
    show Rch p e below _ T126 (mkF m 125 #[.val (.int p1), .val (.int p2), .val (.int p3), .val (.int p4), .val (.int p5), .val (.int (1 : Int32)), .val (.ref aa), .val (.int (((own_u (p1.toInt8.toInt32)) + ((256 : Int32) * (own_u (p2.toInt8.toInt32)))) + ((65536 : Int32) * (own_u (p3.toInt8.toInt32))))), .val (.int (own_le (nar .byte (p1.toInt8.toInt32)) (nar .byte (p2.toInt8.toInt32)) (nar .byte (p3.toInt8.toInt32))))] [(.int (own_le (nar .byte (p1.toInt8.toInt32)) (nar .byte (p2.toInt8.toInt32)) (nar .byte (p3.toInt8.toInt32))))])
    refine Rch.go (fun _ q => XS.ifNo X126.here hx rfl (hb hby at_125) rfl ((if0 _ _).trans (flt (own_pos _ _ _).1).1) q) ?_
    show Rch p e below _ T126 (mkF m 128 #[.val (.int p1), .val (.int p2), .val (.int p3), .val (.int p4), .val (.int p5), .val (.int (1 : Int32)), .val (.ref aa), .val (.int (((own_u (p1.toInt8.toInt32)) + ((256 : Int32) * (own_u (p2.toInt8.toInt32)))) + ((65536 : Int32) * (own_u (p3.toInt8.toInt32))))), .val (.int (own_le (nar .byte (p1.toInt8.toInt32)) (nar .byte (p2.toInt8.toInt32)) (nar .byte (p3.toInt8.toInt32))))] [])
    refine Rch.go (fun _ q => XS.iload X126.here hx rfl (hb hby at_128) rfl  q) ?_
    show Rch p e below _ T126 (mkF m 130 #[.val (.int p1), .val (.int p2), .val (.int p3), .val (.int p4), .val (.int p5), .val (.int (1 : Int32)), .val (.ref aa), .val (.int (((own_u (p1.toInt8.toInt32)) + ((256 : Int32) * (own_u (p2.toInt8.toInt32)))) + ((65536 : Int32) * (own_u (p3.toInt8.toInt32))))), .val (.int (own_le (nar .byte (p1.toInt8.toInt32)) (nar .byte (p2.toInt8.toInt32)) (nar .byte (p3.toInt8.toInt32))))] [(.int (own_le (nar .byte (p1.toInt8.toInt32)) (nar .byte (p2.toInt8.toInt32)) (nar .byte (p3.toInt8.toInt32))))])
    refine Rch.go (fun _ q => X126.ldcI hx (own := "com/example/tessera/tessera/LittleEndianGetUnsignedInt24PinLaw") hown (mvT hZ (hw _ (List.mem_of_getElem? (i := 11) rfl))) rfl (hb hby at_130) q) ?_
    show Rch p e below _ T126 (mkF m 132 #[.val (.int p1), .val (.int p2), .val (.int p3), .val (.int p4), .val (.int p5), .val (.int (1 : Int32)), .val (.ref aa), .val (.int (((own_u (p1.toInt8.toInt32)) + ((256 : Int32) * (own_u (p2.toInt8.toInt32)))) + ((65536 : Int32) * (own_u (p3.toInt8.toInt32))))), .val (.int (own_le (nar .byte (p1.toInt8.toInt32)) (nar .byte (p2.toInt8.toInt32)) (nar .byte (p3.toInt8.toInt32))))] [(.int (16777215 : Int32)), (.int (own_le (nar .byte (p1.toInt8.toInt32)) (nar .byte (p2.toInt8.toInt32)) (nar .byte (p3.toInt8.toInt32))))])
    refine Rch.go (fun _ q => XS.icmpNo X126.here hx rfl (hb hby at_132) rfl (flt (own_pos _ _ _).2).2.2.1 q) ?_
    show Rch p e below _ T126 (mkF m 135 #[.val (.int p1), .val (.int p2), .val (.int p3), .val (.int p4), .val (.int p5), .val (.int (1 : Int32)), .val (.ref aa), .val (.int (((own_u (p1.toInt8.toInt32)) + ((256 : Int32) * (own_u (p2.toInt8.toInt32)))) + ((65536 : Int32) * (own_u (p3.toInt8.toInt32))))), .val (.int (own_le (nar .byte (p1.toInt8.toInt32)) (nar .byte (p2.toInt8.toInt32)) (nar .byte (p3.toInt8.toInt32))))] [])
    refine Rch.go (fun _ q => XS.iconst X126.here hx rfl (hb hby at_135) q) ?_
    show Rch p e below _ T126 (mkF m 136 #[.val (.int p1), .val (.int p2), .val (.int p3), .val (.int p4), .val (.int p5), .val (.int (1 : Int32)), .val (.ref aa), .val (.int (((own_u (p1.toInt8.toInt32)) + ((256 : Int32) * (own_u (p2.toInt8.toInt32)))) + ((65536 : Int32) * (own_u (p3.toInt8.toInt32))))), .val (.int (own_le (nar .byte (p1.toInt8.toInt32)) (nar .byte (p2.toInt8.toInt32)) (nar .byte (p3.toInt8.toInt32))))] [(.int (1 : Int32))])
    refine Rch.go (fun _ q => XS.goto X126.here hx rfl (pc0 := 136) (pc' := 140) rfl (hb hby at_136) (by decide) (by decide) q) ?_
    show Rch p e below _ T126 (mkF m 140 #[.val (.int p1), .val (.int p2), .val (.int p3), .val (.int p4), .val (.int p5), .val (.int (1 : Int32)), .val (.ref aa), .val (.int (((own_u (p1.toInt8.toInt32)) + ((256 : Int32) * (own_u (p2.toInt8.toInt32)))) + ((65536 : Int32) * (own_u (p3.toInt8.toInt32))))), .val (.int (own_le (nar .byte (p1.toInt8.toInt32)) (nar .byte (p2.toInt8.toInt32)) (nar .byte (p3.toInt8.toInt32))))] [(.int (1 : Int32))])
    refine Rch.retZ X126 hx hlk Bd.returns (hb hby at_140) (by decide) (by decide) ?_
    unfold Qrm0
    exact ⟨rfl, N126⟩
  · rw [hr]
    show Rch p e below _ s₁ (mkF m 9 #[.val (.int p1), .val (.int p2), .val (.int p3), .val (.int p4), .val (.int p5), .val (.int (2 : Int32)), .unset, .unset, .unset] [])
    refine Rch.go (fun _ q => XS.iconst X0.here hx rfl (hb hby at_9) q) ?_
    show Rch p e below _ s₁ (mkF m 10 #[.val (.int p1), .val (.int p2), .val (.int p3), .val (.int p4), .val (.int p5), .val (.int (2 : Int32)), .unset, .unset, .unset] [(.int (5 : Int32))])
    obtain ⟨T127, h127, kk_aa, X127, e127, E127, V127, st127⟩ := naw X0 hx hZ (hw _ (List.mem_of_getElem? (i := 1) rfl)) e0 (g := (mkF m 10 #[.val (.int p1), .val (.int p2), .val (.int p3), .val (.int p4), .val (.int p5), .val (.int (2 : Int32)), .unset, .unset, .unset] [(.int (5 : Int32))])) rfl (hb hby at_10) rfl (by decide) 5 (cap := 5) (by decide) (by decide) (by decide) (by decide)
    obtain ⟨aa, g127⟩ : ∃ q, q = Array.size h0 := ⟨_, rfl⟩
    rw [← g127] at V127 st127
    have V_aa_127 : Arv Z h127 aa kk_aa .byte 5 [(.int 0), (.int 0), (.int 0), (.int 0), (.int 0)] (.int 0) := V127
    have le_aa : n0 ≤ aa := by rw [g127]; exact Z0
    have Z127 : n0 ≤ h127.size := Nat.le_trans Z0 E127.1
    refine Rch.go st127 ?_
    show Rch p e below _ T127 (mkF m 12 #[.val (.int p1), .val (.int p2), .val (.int p3), .val (.int p4), .val (.int p5), .val (.int (2 : Int32)), .unset, .unset, .unset] [(.ref aa)])
    refine Rch.go (fun _ q => XS.astore X127.here hx rfl (hb hby at_12) rfl rfl (l' := #[.val (.int p1), .val (.int p2), .val (.int p3), .val (.int p4), .val (.int p5), .val (.int (2 : Int32)), .val (.ref aa), .unset, .unset]) rfl q) ?_
    show Rch p e below _ T127 (mkF m 14 #[.val (.int p1), .val (.int p2), .val (.int p3), .val (.int p4), .val (.int p5), .val (.int (2 : Int32)), .val (.ref aa), .unset, .unset] [])
    refine Rch.go (fun _ q => XS.aload X127.here hx rfl (hb hby at_14) rfl rfl q) ?_
    show Rch p e below _ T127 (mkF m 16 #[.val (.int p1), .val (.int p2), .val (.int p3), .val (.int p4), .val (.int p5), .val (.int (2 : Int32)), .val (.ref aa), .unset, .unset] [(.ref aa)])
    refine Rch.go (fun _ q => XS.iconst X127.here hx rfl (hb hby at_16) q) ?_
    show Rch p e below _ T127 (mkF m 17 #[.val (.int p1), .val (.int p2), .val (.int p3), .val (.int p4), .val (.int p5), .val (.int (2 : Int32)), .val (.ref aa), .unset, .unset] [(.int (0 : Int32)), (.ref aa)])
    refine Rch.go (fun _ q => XS.iloadN X127.here hx rfl (hb hby at_17) rfl  q) ?_
    show Rch p e below _ T127 (mkF m 18 #[.val (.int p1), .val (.int p2), .val (.int p3), .val (.int p4), .val (.int p5), .val (.int (2 : Int32)), .val (.ref aa), .unset, .unset] [(.int p4), (.int (0 : Int32)), (.ref aa)])
    refine Rch.go (fun _ q => XS.i2b X127.here hx rfl (hb hby at_18) rfl q) ?_
    show Rch p e below _ T127 (mkF m 19 #[.val (.int p1), .val (.int p2), .val (.int p3), .val (.int p4), .val (.int p5), .val (.int (2 : Int32)), .val (.ref aa), .unset, .unset] [(.int (p4.toInt8.toInt32)), (.int (0 : Int32)), (.ref aa)])
    obtain ⟨T128, h128, X128, e128, W128, V128, st128⟩ := sdB X127 hx hZ e127 V_aa_127 (j := (0 : Int32)) (by decide) 0 (by decide) (Nat.le_of_ble_eq_true rfl) (g := (mkF m 19 #[.val (.int p1), .val (.int p2), .val (.int p3), .val (.int p4), .val (.int p5), .val (.int (2 : Int32)), .val (.ref aa), .unset, .unset] [(.int (p4.toInt8.toInt32)), (.int (0 : Int32)), (.ref aa)])) rfl rfl (hb hby at_19)
    have V_aa_128 : Arv Z h128 aa kk_aa .byte 5 [(.int (nar .byte (p4.toInt8.toInt32))), (.int 0), (.int 0), (.int 0), (.int 0)] (.int 0) := V128
    have N128 := Fr.snoc X128 N0 le_aa
    have Z128 : n0 ≤ h128.size := by rw [W128.size]; exact Z127
    refine Rch.go st128 ?_
    show Rch p e below _ T128 (mkF m 20 #[.val (.int p1), .val (.int p2), .val (.int p3), .val (.int p4), .val (.int p5), .val (.int (2 : Int32)), .val (.ref aa), .unset, .unset] [])
    refine Rch.go (fun _ q => XS.aload X128.here hx rfl (hb hby at_20) rfl rfl q) ?_
    show Rch p e below _ T128 (mkF m 22 #[.val (.int p1), .val (.int p2), .val (.int p3), .val (.int p4), .val (.int p5), .val (.int (2 : Int32)), .val (.ref aa), .unset, .unset] [(.ref aa)])
    refine Rch.go (fun _ q => XS.iconst X128.here hx rfl (hb hby at_22) q) ?_
    show Rch p e below _ T128 (mkF m 23 #[.val (.int p1), .val (.int p2), .val (.int p3), .val (.int p4), .val (.int p5), .val (.int (2 : Int32)), .val (.ref aa), .unset, .unset] [(.int (1 : Int32)), (.ref aa)])
    refine Rch.go (fun _ q => XS.iloadN X128.here hx rfl (hb hby at_23) rfl  q) ?_
    show Rch p e below _ T128 (mkF m 24 #[.val (.int p1), .val (.int p2), .val (.int p3), .val (.int p4), .val (.int p5), .val (.int (2 : Int32)), .val (.ref aa), .unset, .unset] [(.int p4), (.int (1 : Int32)), (.ref aa)])
    refine Rch.go (fun _ q => XS.bipush X128.here hx rfl (hb hby at_24) q) ?_
    show Rch p e below _ T128 (mkF m 26 #[.val (.int p1), .val (.int p2), .val (.int p3), .val (.int p4), .val (.int p5), .val (.int (2 : Int32)), .val (.ref aa), .unset, .unset] [(.int (8 : Int32)), (.int p4), (.int (1 : Int32)), (.ref aa)])
    refine Rch.go (fun _ q => XS.iushr X128.here hx rfl (hb hby at_26) rfl q) ?_
    show Rch p e below _ T128 (mkF m 27 #[.val (.int p1), .val (.int p2), .val (.int p3), .val (.int p4), .val (.int p5), .val (.int (2 : Int32)), .val (.ref aa), .unset, .unset] [(.int ((p4.toUInt32 >>> ((8 : Int32) &&& 31).toUInt32).toInt32)), (.int (1 : Int32)), (.ref aa)])
    refine Rch.go (fun _ q => XS.i2b X128.here hx rfl (hb hby at_27) rfl q) ?_
    show Rch p e below _ T128 (mkF m 28 #[.val (.int p1), .val (.int p2), .val (.int p3), .val (.int p4), .val (.int p5), .val (.int (2 : Int32)), .val (.ref aa), .unset, .unset] [(.int (((p4.toUInt32 >>> ((8 : Int32) &&& 31).toUInt32).toInt32).toInt8.toInt32)), (.int (1 : Int32)), (.ref aa)])
    obtain ⟨T129, h129, X129, e129, W129, V129, st129⟩ := sdB X128 hx hZ e128 V_aa_128 (j := (1 : Int32)) (by decide) 1 (by decide) (Nat.le_of_ble_eq_true rfl) (g := (mkF m 28 #[.val (.int p1), .val (.int p2), .val (.int p3), .val (.int p4), .val (.int p5), .val (.int (2 : Int32)), .val (.ref aa), .unset, .unset] [(.int (((p4.toUInt32 >>> ((8 : Int32) &&& 31).toUInt32).toInt32).toInt8.toInt32)), (.int (1 : Int32)), (.ref aa)])) rfl rfl (hb hby at_28)
    have V_aa_129 : Arv Z h129 aa kk_aa .byte 5 [(.int (nar .byte (p4.toInt8.toInt32))), (.int (nar .byte (((p4.toUInt32 >>> ((8 : Int32) &&& 31).toUInt32).toInt32).toInt8.toInt32))), (.int 0), (.int 0), (.int 0)] (.int 0) := V129
    have N129 := Fr.snoc X129 N128 le_aa
    have Z129 : n0 ≤ h129.size := by rw [W129.size]; exact Z128
    refine Rch.go st129 ?_
    show Rch p e below _ T129 (mkF m 29 #[.val (.int p1), .val (.int p2), .val (.int p3), .val (.int p4), .val (.int p5), .val (.int (2 : Int32)), .val (.ref aa), .unset, .unset] [])
    refine Rch.go (fun _ q => XS.aload X129.here hx rfl (hb hby at_29) rfl rfl q) ?_
    show Rch p e below _ T129 (mkF m 31 #[.val (.int p1), .val (.int p2), .val (.int p3), .val (.int p4), .val (.int p5), .val (.int (2 : Int32)), .val (.ref aa), .unset, .unset] [(.ref aa)])
    refine Rch.go (fun _ q => XS.iconst X129.here hx rfl (hb hby at_31) q) ?_
    show Rch p e below _ T129 (mkF m 32 #[.val (.int p1), .val (.int p2), .val (.int p3), .val (.int p4), .val (.int p5), .val (.int (2 : Int32)), .val (.ref aa), .unset, .unset] [(.int (2 : Int32)), (.ref aa)])
    refine Rch.go (fun _ q => XS.iloadN X129.here hx rfl (hb hby at_32) rfl  q) ?_
    show Rch p e below _ T129 (mkF m 33 #[.val (.int p1), .val (.int p2), .val (.int p3), .val (.int p4), .val (.int p5), .val (.int (2 : Int32)), .val (.ref aa), .unset, .unset] [(.int p4), (.int (2 : Int32)), (.ref aa)])
    refine Rch.go (fun _ q => XS.bipush X129.here hx rfl (hb hby at_33) q) ?_
    show Rch p e below _ T129 (mkF m 35 #[.val (.int p1), .val (.int p2), .val (.int p3), .val (.int p4), .val (.int p5), .val (.int (2 : Int32)), .val (.ref aa), .unset, .unset] [(.int (16 : Int32)), (.int p4), (.int (2 : Int32)), (.ref aa)])
    refine Rch.go (fun _ q => XS.iushr X129.here hx rfl (hb hby at_35) rfl q) ?_
    show Rch p e below _ T129 (mkF m 36 #[.val (.int p1), .val (.int p2), .val (.int p3), .val (.int p4), .val (.int p5), .val (.int (2 : Int32)), .val (.ref aa), .unset, .unset] [(.int ((p4.toUInt32 >>> ((16 : Int32) &&& 31).toUInt32).toInt32)), (.int (2 : Int32)), (.ref aa)])
    refine Rch.go (fun _ q => XS.i2b X129.here hx rfl (hb hby at_36) rfl q) ?_
    show Rch p e below _ T129 (mkF m 37 #[.val (.int p1), .val (.int p2), .val (.int p3), .val (.int p4), .val (.int p5), .val (.int (2 : Int32)), .val (.ref aa), .unset, .unset] [(.int (((p4.toUInt32 >>> ((16 : Int32) &&& 31).toUInt32).toInt32).toInt8.toInt32)), (.int (2 : Int32)), (.ref aa)])
    obtain ⟨T130, h130, X130, e130, W130, V130, st130⟩ := sdB X129 hx hZ e129 V_aa_129 (j := (2 : Int32)) (by decide) 2 (by decide) (Nat.le_of_ble_eq_true rfl) (g := (mkF m 37 #[.val (.int p1), .val (.int p2), .val (.int p3), .val (.int p4), .val (.int p5), .val (.int (2 : Int32)), .val (.ref aa), .unset, .unset] [(.int (((p4.toUInt32 >>> ((16 : Int32) &&& 31).toUInt32).toInt32).toInt8.toInt32)), (.int (2 : Int32)), (.ref aa)])) rfl rfl (hb hby at_37)
    have V_aa_130 : Arv Z h130 aa kk_aa .byte 5 [(.int (nar .byte (p4.toInt8.toInt32))), (.int (nar .byte (((p4.toUInt32 >>> ((8 : Int32) &&& 31).toUInt32).toInt32).toInt8.toInt32))), (.int (nar .byte (((p4.toUInt32 >>> ((16 : Int32) &&& 31).toUInt32).toInt32).toInt8.toInt32))), (.int 0), (.int 0)] (.int 0) := V130
    have N130 := Fr.snoc X130 N129 le_aa
    have Z130 : n0 ≤ h130.size := by rw [W130.size]; exact Z129
    refine Rch.go st130 ?_
    show Rch p e below _ T130 (mkF m 38 #[.val (.int p1), .val (.int p2), .val (.int p3), .val (.int p4), .val (.int p5), .val (.int (2 : Int32)), .val (.ref aa), .unset, .unset] [])
    refine Rch.go (fun _ q => XS.aload X130.here hx rfl (hb hby at_38) rfl rfl q) ?_
    show Rch p e below _ T130 (mkF m 40 #[.val (.int p1), .val (.int p2), .val (.int p3), .val (.int p4), .val (.int p5), .val (.int (2 : Int32)), .val (.ref aa), .unset, .unset] [(.ref aa)])
    refine Rch.go (fun _ q => XS.iconst X130.here hx rfl (hb hby at_40) q) ?_
    show Rch p e below _ T130 (mkF m 41 #[.val (.int p1), .val (.int p2), .val (.int p3), .val (.int p4), .val (.int p5), .val (.int (2 : Int32)), .val (.ref aa), .unset, .unset] [(.int (3 : Int32)), (.ref aa)])
    refine Rch.go (fun _ q => XS.iloadN X130.here hx rfl (hb hby at_41) rfl  q) ?_
    show Rch p e below _ T130 (mkF m 42 #[.val (.int p1), .val (.int p2), .val (.int p3), .val (.int p4), .val (.int p5), .val (.int (2 : Int32)), .val (.ref aa), .unset, .unset] [(.int p4), (.int (3 : Int32)), (.ref aa)])
    refine Rch.go (fun _ q => XS.bipush X130.here hx rfl (hb hby at_42) q) ?_
    show Rch p e below _ T130 (mkF m 44 #[.val (.int p1), .val (.int p2), .val (.int p3), .val (.int p4), .val (.int p5), .val (.int (2 : Int32)), .val (.ref aa), .unset, .unset] [(.int (24 : Int32)), (.int p4), (.int (3 : Int32)), (.ref aa)])
    refine Rch.go (fun _ q => XS.iushr X130.here hx rfl (hb hby at_44) rfl q) ?_
    show Rch p e below _ T130 (mkF m 45 #[.val (.int p1), .val (.int p2), .val (.int p3), .val (.int p4), .val (.int p5), .val (.int (2 : Int32)), .val (.ref aa), .unset, .unset] [(.int ((p4.toUInt32 >>> ((24 : Int32) &&& 31).toUInt32).toInt32)), (.int (3 : Int32)), (.ref aa)])
    refine Rch.go (fun _ q => XS.i2b X130.here hx rfl (hb hby at_45) rfl q) ?_
    show Rch p e below _ T130 (mkF m 46 #[.val (.int p1), .val (.int p2), .val (.int p3), .val (.int p4), .val (.int p5), .val (.int (2 : Int32)), .val (.ref aa), .unset, .unset] [(.int (((p4.toUInt32 >>> ((24 : Int32) &&& 31).toUInt32).toInt32).toInt8.toInt32)), (.int (3 : Int32)), (.ref aa)])
    obtain ⟨T131, h131, X131, e131, W131, V131, st131⟩ := sdB X130 hx hZ e130 V_aa_130 (j := (3 : Int32)) (by decide) 3 (by decide) (Nat.le_of_ble_eq_true rfl) (g := (mkF m 46 #[.val (.int p1), .val (.int p2), .val (.int p3), .val (.int p4), .val (.int p5), .val (.int (2 : Int32)), .val (.ref aa), .unset, .unset] [(.int (((p4.toUInt32 >>> ((24 : Int32) &&& 31).toUInt32).toInt32).toInt8.toInt32)), (.int (3 : Int32)), (.ref aa)])) rfl rfl (hb hby at_46)
    have V_aa_131 : Arv Z h131 aa kk_aa .byte 5 [(.int (nar .byte (p4.toInt8.toInt32))), (.int (nar .byte (((p4.toUInt32 >>> ((8 : Int32) &&& 31).toUInt32).toInt32).toInt8.toInt32))), (.int (nar .byte (((p4.toUInt32 >>> ((16 : Int32) &&& 31).toUInt32).toInt32).toInt8.toInt32))), (.int (nar .byte (((p4.toUInt32 >>> ((24 : Int32) &&& 31).toUInt32).toInt32).toInt8.toInt32))), (.int 0)] (.int 0) := V131
    have N131 := Fr.snoc X131 N130 le_aa
    have Z131 : n0 ≤ h131.size := by rw [W131.size]; exact Z130
    refine Rch.go st131 ?_
    show Rch p e below _ T131 (mkF m 47 #[.val (.int p1), .val (.int p2), .val (.int p3), .val (.int p4), .val (.int p5), .val (.int (2 : Int32)), .val (.ref aa), .unset, .unset] [])
    refine Rch.go (fun _ q => XS.aload X131.here hx rfl (hb hby at_47) rfl rfl q) ?_
    show Rch p e below _ T131 (mkF m 49 #[.val (.int p1), .val (.int p2), .val (.int p3), .val (.int p4), .val (.int p5), .val (.int (2 : Int32)), .val (.ref aa), .unset, .unset] [(.ref aa)])
    refine Rch.go (fun _ q => XS.iconst X131.here hx rfl (hb hby at_49) q) ?_
    show Rch p e below _ T131 (mkF m 50 #[.val (.int p1), .val (.int p2), .val (.int p3), .val (.int p4), .val (.int p5), .val (.int (2 : Int32)), .val (.ref aa), .unset, .unset] [(.int (4 : Int32)), (.ref aa)])
    refine Rch.go (fun _ q => XS.iloadN X131.here hx rfl (hb hby at_50) rfl  q) ?_
    show Rch p e below _ T131 (mkF m 51 #[.val (.int p1), .val (.int p2), .val (.int p3), .val (.int p4), .val (.int p5), .val (.int (2 : Int32)), .val (.ref aa), .unset, .unset] [(.int p4), (.int (4 : Int32)), (.ref aa)])
    refine Rch.go (fun _ q => XS.bipush X131.here hx rfl (hb hby at_51) q) ?_
    show Rch p e below _ T131 (mkF m 53 #[.val (.int p1), .val (.int p2), .val (.int p3), .val (.int p4), .val (.int p5), .val (.int (2 : Int32)), .val (.ref aa), .unset, .unset] [(.int (90 : Int32)), (.int p4), (.int (4 : Int32)), (.ref aa)])
    refine Rch.go (fun _ q => XS.ixor X131.here hx rfl (hb hby at_53) rfl q) ?_
    show Rch p e below _ T131 (mkF m 54 #[.val (.int p1), .val (.int p2), .val (.int p3), .val (.int p4), .val (.int p5), .val (.int (2 : Int32)), .val (.ref aa), .unset, .unset] [(.int (p4 ^^^ (90 : Int32))), (.int (4 : Int32)), (.ref aa)])
    refine Rch.go (fun _ q => XS.i2b X131.here hx rfl (hb hby at_54) rfl q) ?_
    show Rch p e below _ T131 (mkF m 55 #[.val (.int p1), .val (.int p2), .val (.int p3), .val (.int p4), .val (.int p5), .val (.int (2 : Int32)), .val (.ref aa), .unset, .unset] [(.int ((p4 ^^^ (90 : Int32)).toInt8.toInt32)), (.int (4 : Int32)), (.ref aa)])
    obtain ⟨T132, h132, X132, e132, W132, V132, st132⟩ := sdB X131 hx hZ e131 V_aa_131 (j := (4 : Int32)) (by decide) 4 (by decide) (Nat.le_of_ble_eq_true rfl) (g := (mkF m 55 #[.val (.int p1), .val (.int p2), .val (.int p3), .val (.int p4), .val (.int p5), .val (.int (2 : Int32)), .val (.ref aa), .unset, .unset] [(.int ((p4 ^^^ (90 : Int32)).toInt8.toInt32)), (.int (4 : Int32)), (.ref aa)])) rfl rfl (hb hby at_55)
    have V_aa_132 : Arv Z h132 aa kk_aa .byte 5 [(.int (nar .byte (p4.toInt8.toInt32))), (.int (nar .byte (((p4.toUInt32 >>> ((8 : Int32) &&& 31).toUInt32).toInt32).toInt8.toInt32))), (.int (nar .byte (((p4.toUInt32 >>> ((16 : Int32) &&& 31).toUInt32).toInt32).toInt8.toInt32))), (.int (nar .byte (((p4.toUInt32 >>> ((24 : Int32) &&& 31).toUInt32).toInt32).toInt8.toInt32))), (.int (nar .byte ((p4 ^^^ (90 : Int32)).toInt8.toInt32)))] (.int 0) := V132
    have N132 := Fr.snoc X132 N131 le_aa
    have Z132 : n0 ≤ h132.size := by rw [W132.size]; exact Z131
    refine Rch.go st132 ?_
    show Rch p e below _ T132 (mkF m 56 #[.val (.int p1), .val (.int p2), .val (.int p3), .val (.int p4), .val (.int p5), .val (.int (2 : Int32)), .val (.ref aa), .unset, .unset] [])
    refine Rch.go (fun _ q => XS.aload X132.here hx rfl (hb hby at_56) rfl rfl q) ?_
    show Rch p e below _ T132 (mkF m 58 #[.val (.int p1), .val (.int p2), .val (.int p3), .val (.int p4), .val (.int p5), .val (.int (2 : Int32)), .val (.ref aa), .unset, .unset] [(.ref aa)])
    refine Rch.go (fun _ q => XS.iload X132.here hx rfl (hb hby at_58) rfl  q) ?_
    show Rch p e below _ T132 (mkF m 60 #[.val (.int p1), .val (.int p2), .val (.int p3), .val (.int p4), .val (.int p5), .val (.int (2 : Int32)), .val (.ref aa), .unset, .unset] [(.int (2 : Int32)), (.ref aa)])
    refine Rch.go (fun _ q => XS.iloadN X132.here hx rfl (hb hby at_60) rfl  q) ?_
    show Rch p e below _ T132 (mkF m 61 #[.val (.int p1), .val (.int p2), .val (.int p3), .val (.int p4), .val (.int p5), .val (.int (2 : Int32)), .val (.ref aa), .unset, .unset] [(.int p1), (.int (2 : Int32)), (.ref aa)])
    refine Rch.go (fun _ q => XS.i2b X132.here hx rfl (hb hby at_61) rfl q) ?_
    show Rch p e below _ T132 (mkF m 62 #[.val (.int p1), .val (.int p2), .val (.int p3), .val (.int p4), .val (.int p5), .val (.int (2 : Int32)), .val (.ref aa), .unset, .unset] [(.int (p1.toInt8.toInt32)), (.int (2 : Int32)), (.ref aa)])
    obtain ⟨T133, h133, X133, e133, W133, V133, st133⟩ := sdB X132 hx hZ e132 V_aa_132 (j := (2 : Int32)) (by decide) 2 (by decide) (Nat.le_of_ble_eq_true rfl) (g := (mkF m 62 #[.val (.int p1), .val (.int p2), .val (.int p3), .val (.int p4), .val (.int p5), .val (.int (2 : Int32)), .val (.ref aa), .unset, .unset] [(.int (p1.toInt8.toInt32)), (.int (2 : Int32)), (.ref aa)])) rfl rfl (hb hby at_62)
    have V_aa_133 : Arv Z h133 aa kk_aa .byte 5 [(.int (nar .byte (p4.toInt8.toInt32))), (.int (nar .byte (((p4.toUInt32 >>> ((8 : Int32) &&& 31).toUInt32).toInt32).toInt8.toInt32))), (.int (nar .byte (p1.toInt8.toInt32))), (.int (nar .byte (((p4.toUInt32 >>> ((24 : Int32) &&& 31).toUInt32).toInt32).toInt8.toInt32))), (.int (nar .byte ((p4 ^^^ (90 : Int32)).toInt8.toInt32)))] (.int 0) := V133
    have N133 := Fr.snoc X133 N132 le_aa
    have Z133 : n0 ≤ h133.size := by rw [W133.size]; exact Z132
    refine Rch.go st133 ?_
    show Rch p e below _ T133 (mkF m 63 #[.val (.int p1), .val (.int p2), .val (.int p3), .val (.int p4), .val (.int p5), .val (.int (2 : Int32)), .val (.ref aa), .unset, .unset] [])
    refine Rch.go (fun _ q => XS.aload X133.here hx rfl (hb hby at_63) rfl rfl q) ?_
    show Rch p e below _ T133 (mkF m 65 #[.val (.int p1), .val (.int p2), .val (.int p3), .val (.int p4), .val (.int p5), .val (.int (2 : Int32)), .val (.ref aa), .unset, .unset] [(.ref aa)])
    refine Rch.go (fun _ q => XS.iload X133.here hx rfl (hb hby at_65) rfl  q) ?_
    show Rch p e below _ T133 (mkF m 67 #[.val (.int p1), .val (.int p2), .val (.int p3), .val (.int p4), .val (.int p5), .val (.int (2 : Int32)), .val (.ref aa), .unset, .unset] [(.int (2 : Int32)), (.ref aa)])
    refine Rch.go (fun _ q => XS.iconst X133.here hx rfl (hb hby at_67) q) ?_
    show Rch p e below _ T133 (mkF m 68 #[.val (.int p1), .val (.int p2), .val (.int p3), .val (.int p4), .val (.int p5), .val (.int (2 : Int32)), .val (.ref aa), .unset, .unset] [(.int (1 : Int32)), (.int (2 : Int32)), (.ref aa)])
    refine Rch.go (fun _ q => XS.iadd X133.here hx rfl (hb hby at_68) rfl q) ?_
    show Rch p e below _ T133 (mkF m 69 #[.val (.int p1), .val (.int p2), .val (.int p3), .val (.int p4), .val (.int p5), .val (.int (2 : Int32)), .val (.ref aa), .unset, .unset] [(.int ((2 : Int32) + (1 : Int32))), (.ref aa)])
    refine Rch.go (fun _ q => XS.iloadN X133.here hx rfl (hb hby at_69) rfl  q) ?_
    show Rch p e below _ T133 (mkF m 70 #[.val (.int p1), .val (.int p2), .val (.int p3), .val (.int p4), .val (.int p5), .val (.int (2 : Int32)), .val (.ref aa), .unset, .unset] [(.int p2), (.int ((2 : Int32) + (1 : Int32))), (.ref aa)])
    refine Rch.go (fun _ q => XS.i2b X133.here hx rfl (hb hby at_70) rfl q) ?_
    show Rch p e below _ T133 (mkF m 71 #[.val (.int p1), .val (.int p2), .val (.int p3), .val (.int p4), .val (.int p5), .val (.int (2 : Int32)), .val (.ref aa), .unset, .unset] [(.int (p2.toInt8.toInt32)), (.int ((2 : Int32) + (1 : Int32))), (.ref aa)])
    obtain ⟨T134, h134, X134, e134, W134, V134, st134⟩ := sdB X133 hx hZ e133 V_aa_133 (j := ((2 : Int32) + (1 : Int32))) (by decide) 3 (by decide) (Nat.le_of_ble_eq_true rfl) (g := (mkF m 71 #[.val (.int p1), .val (.int p2), .val (.int p3), .val (.int p4), .val (.int p5), .val (.int (2 : Int32)), .val (.ref aa), .unset, .unset] [(.int (p2.toInt8.toInt32)), (.int ((2 : Int32) + (1 : Int32))), (.ref aa)])) rfl rfl (hb hby at_71)
    have V_aa_134 : Arv Z h134 aa kk_aa .byte 5 [(.int (nar .byte (p4.toInt8.toInt32))), (.int (nar .byte (((p4.toUInt32 >>> ((8 : Int32) &&& 31).toUInt32).toInt32).toInt8.toInt32))), (.int (nar .byte (p1.toInt8.toInt32))), (.int (nar .byte (p2.toInt8.toInt32))), (.int (nar .byte ((p4 ^^^ (90 : Int32)).toInt8.toInt32)))] (.int 0) := V134
    have N134 := Fr.snoc X134 N133 le_aa
    have Z134 : n0 ≤ h134.size := by rw [W134.size]; exact Z133
    refine Rch.go st134 ?_
    show Rch p e below _ T134 (mkF m 72 #[.val (.int p1), .val (.int p2), .val (.int p3), .val (.int p4), .val (.int p5), .val (.int (2 : Int32)), .val (.ref aa), .unset, .unset] [])
    refine Rch.go (fun _ q => XS.aload X134.here hx rfl (hb hby at_72) rfl rfl q) ?_
    show Rch p e below _ T134 (mkF m 74 #[.val (.int p1), .val (.int p2), .val (.int p3), .val (.int p4), .val (.int p5), .val (.int (2 : Int32)), .val (.ref aa), .unset, .unset] [(.ref aa)])
    refine Rch.go (fun _ q => XS.iload X134.here hx rfl (hb hby at_74) rfl  q) ?_
    show Rch p e below _ T134 (mkF m 76 #[.val (.int p1), .val (.int p2), .val (.int p3), .val (.int p4), .val (.int p5), .val (.int (2 : Int32)), .val (.ref aa), .unset, .unset] [(.int (2 : Int32)), (.ref aa)])
    refine Rch.go (fun _ q => XS.iconst X134.here hx rfl (hb hby at_76) q) ?_
    show Rch p e below _ T134 (mkF m 77 #[.val (.int p1), .val (.int p2), .val (.int p3), .val (.int p4), .val (.int p5), .val (.int (2 : Int32)), .val (.ref aa), .unset, .unset] [(.int (2 : Int32)), (.int (2 : Int32)), (.ref aa)])
    refine Rch.go (fun _ q => XS.iadd X134.here hx rfl (hb hby at_77) rfl q) ?_
    show Rch p e below _ T134 (mkF m 78 #[.val (.int p1), .val (.int p2), .val (.int p3), .val (.int p4), .val (.int p5), .val (.int (2 : Int32)), .val (.ref aa), .unset, .unset] [(.int ((2 : Int32) + (2 : Int32))), (.ref aa)])
    refine Rch.go (fun _ q => XS.iloadN X134.here hx rfl (hb hby at_78) rfl  q) ?_
    show Rch p e below _ T134 (mkF m 79 #[.val (.int p1), .val (.int p2), .val (.int p3), .val (.int p4), .val (.int p5), .val (.int (2 : Int32)), .val (.ref aa), .unset, .unset] [(.int p3), (.int ((2 : Int32) + (2 : Int32))), (.ref aa)])
    refine Rch.go (fun _ q => XS.i2b X134.here hx rfl (hb hby at_79) rfl q) ?_
    show Rch p e below _ T134 (mkF m 80 #[.val (.int p1), .val (.int p2), .val (.int p3), .val (.int p4), .val (.int p5), .val (.int (2 : Int32)), .val (.ref aa), .unset, .unset] [(.int (p3.toInt8.toInt32)), (.int ((2 : Int32) + (2 : Int32))), (.ref aa)])
    obtain ⟨T135, h135, X135, e135, W135, V135, st135⟩ := sdB X134 hx hZ e134 V_aa_134 (j := ((2 : Int32) + (2 : Int32))) (by decide) 4 (by decide) (Nat.le_of_ble_eq_true rfl) (g := (mkF m 80 #[.val (.int p1), .val (.int p2), .val (.int p3), .val (.int p4), .val (.int p5), .val (.int (2 : Int32)), .val (.ref aa), .unset, .unset] [(.int (p3.toInt8.toInt32)), (.int ((2 : Int32) + (2 : Int32))), (.ref aa)])) rfl rfl (hb hby at_80)
    have V_aa_135 : Arv Z h135 aa kk_aa .byte 5 [(.int (nar .byte (p4.toInt8.toInt32))), (.int (nar .byte (((p4.toUInt32 >>> ((8 : Int32) &&& 31).toUInt32).toInt32).toInt8.toInt32))), (.int (nar .byte (p1.toInt8.toInt32))), (.int (nar .byte (p2.toInt8.toInt32))), (.int (nar .byte (p3.toInt8.toInt32)))] (.int 0) := V135
    have N135 := Fr.snoc X135 N134 le_aa
    have Z135 : n0 ≤ h135.size := by rw [W135.size]; exact Z134
    refine Rch.go st135 ?_
    show Rch p e below _ T135 (mkF m 81 #[.val (.int p1), .val (.int p2), .val (.int p3), .val (.int p4), .val (.int p5), .val (.int (2 : Int32)), .val (.ref aa), .unset, .unset] [])
    refine Rch.go (fun _ q => XS.iloadN X135.here hx rfl (hb hby at_81) rfl  q) ?_
    show Rch p e below _ T135 (mkF m 82 #[.val (.int p1), .val (.int p2), .val (.int p3), .val (.int p4), .val (.int p5), .val (.int (2 : Int32)), .val (.ref aa), .unset, .unset] [(.int p1)])
    refine Rch.go (fun _ q => XS.i2b X135.here hx rfl (hb hby at_82) rfl q) ?_
    show Rch p e below _ T135 (mkF m 83 #[.val (.int p1), .val (.int p2), .val (.int p3), .val (.int p4), .val (.int p5), .val (.int (2 : Int32)), .val (.ref aa), .unset, .unset] [(.int (p1.toInt8.toInt32))])
    obtain ⟨_, _, ⟨T136, L136, k136, n136⟩, -, X136, ⟨Lc136, hQ136, l136, y136, z136⟩, st136⟩ := Jvm.LawKit.callS X135 hx (y := (⟨"com/example/tessera/tessera/LittleEndianGetUnsignedInt24PinLaw", "u", "(B)I"⟩ : MethodName)) hown (mvT hZ (hw _ (List.mem_of_getElem? (i := 2) rfl))) (mvT hZ (hw _ (List.mem_of_getElem? (i := 3) rfl))) (mvT hZ (hw _ (List.mem_of_getElem? (i := 4) rfl))) (mvT hZ (hw _ (List.mem_of_getElem? (i := 5) rfl))) (by decide) (backOf (W := 0) (rm1 l Z a0 hw [] (p1.toInt8.toInt32) h135 n0 Z135) hZ (hw _ (List.mem_of_getElem? (i := 5) rfl)) (hw _ (List.mem_of_getElem? (i := 4) rfl)) (by decide) (by decide)) (g := (mkF m 83 #[.val (.int p1), .val (.int p2), .val (.int p3), .val (.int p4), .val (.int p5), .val (.int (2 : Int32)), .val (.ref aa), .unset, .unset] [(.int (p1.toInt8.toInt32))])) rfl (by rw [hml]; rfl) (argsL := [(.int (p1.toInt8.toInt32))]) (rest := []) (lenOf own_pd0 rfl) rfl (by show 2 * 0 + _ ≤ _; exact Nat.le_of_eq rfl) (hb hby at_83) (fun _ _ => ⟨rfl, e135, (by decide : 1 + 0 ≤ _), (by decide : 5 + 0 ≤ _)⟩)
    dsimp only [Pt.U, Pt.locs, Pt.cells, Pt.slots] at X136 l136 y136 z136 st136 hQ136
    subst l136 y136 z136
    obtain ⟨rfl, Nc, ec⟩ := hQ136
    refine Rch.go st136 ?_
    show Rch p e below _ T136 (mkF m 86 #[.val (.int p1), .val (.int p2), .val (.int p3), .val (.int p4), .val (.int p5), .val (.int (2 : Int32)), .val (.ref aa), .unset, .unset] [(.int (own_u (p1.toInt8.toInt32)))])
    have N136 := Fr.app N135 Nc
    have e136 := ec
    refine Rch.go (fun _ q => XS.sipush X136.here hx rfl (hb hby at_86) q) ?_
    show Rch p e below _ T136 (mkF m 89 #[.val (.int p1), .val (.int p2), .val (.int p3), .val (.int p4), .val (.int p5), .val (.int (2 : Int32)), .val (.ref aa), .unset, .unset] [(.int (256 : Int32)), (.int (own_u (p1.toInt8.toInt32)))])
    refine Rch.go (fun _ q => XS.iloadN X136.here hx rfl (hb hby at_89) rfl  q) ?_
    show Rch p e below _ T136 (mkF m 90 #[.val (.int p1), .val (.int p2), .val (.int p3), .val (.int p4), .val (.int p5), .val (.int (2 : Int32)), .val (.ref aa), .unset, .unset] [(.int p2), (.int (256 : Int32)), (.int (own_u (p1.toInt8.toInt32)))])
    refine Rch.go (fun _ q => XS.i2b X136.here hx rfl (hb hby at_90) rfl q) ?_
    show Rch p e below _ T136 (mkF m 91 #[.val (.int p1), .val (.int p2), .val (.int p3), .val (.int p4), .val (.int p5), .val (.int (2 : Int32)), .val (.ref aa), .unset, .unset] [(.int (p2.toInt8.toInt32)), (.int (256 : Int32)), (.int (own_u (p1.toInt8.toInt32)))])
    obtain ⟨_, _, ⟨T137, L137, k137, n137⟩, -, X137, ⟨Lc137, hQ137, l137, y137, z137⟩, st137⟩ := Jvm.LawKit.callS X136 hx (y := (⟨"com/example/tessera/tessera/LittleEndianGetUnsignedInt24PinLaw", "u", "(B)I"⟩ : MethodName)) hown (mvT hZ (hw _ (List.mem_of_getElem? (i := 2) rfl))) (mvT hZ (hw _ (List.mem_of_getElem? (i := 3) rfl))) (mvT hZ (hw _ (List.mem_of_getElem? (i := 4) rfl))) (mvT hZ (hw _ (List.mem_of_getElem? (i := 5) rfl))) (by decide) (backOf (W := 2) (rm1 l Z a0 hw [] (p2.toInt8.toInt32) h135 n0 Z135) hZ (hw _ (List.mem_of_getElem? (i := 5) rfl)) (hw _ (List.mem_of_getElem? (i := 4) rfl)) (by decide) (by decide)) (g := (mkF m 91 #[.val (.int p1), .val (.int p2), .val (.int p3), .val (.int p4), .val (.int p5), .val (.int (2 : Int32)), .val (.ref aa), .unset, .unset] [(.int (p2.toInt8.toInt32)), (.int (256 : Int32)), (.int (own_u (p1.toInt8.toInt32)))])) rfl (by rw [hml]; rfl) (argsL := [(.int (p2.toInt8.toInt32))]) (rest := [(.int (256 : Int32)), (.int (own_u (p1.toInt8.toInt32)))]) (lenOf own_pd0 rfl) rfl (by show 2 * 0 + _ ≤ _; exact Nat.le_of_eq rfl) (hb hby at_91) (fun _ _ => ⟨rfl, e136, (by decide : 1 + 0 ≤ _), (by decide : 5 + 0 ≤ _)⟩)
    dsimp only [Pt.U, Pt.locs, Pt.cells, Pt.slots] at X137 l137 y137 z137 st137 hQ137
    subst l137 y137 z137
    obtain ⟨rfl, Nc, ec⟩ := hQ137
    refine Rch.go st137 ?_
    show Rch p e below _ T137 (mkF m 94 #[.val (.int p1), .val (.int p2), .val (.int p3), .val (.int p4), .val (.int p5), .val (.int (2 : Int32)), .val (.ref aa), .unset, .unset] [(.int (own_u (p2.toInt8.toInt32))), (.int (256 : Int32)), (.int (own_u (p1.toInt8.toInt32)))])
    have N137 := Fr.app N136 Nc
    have e137 := ec
    refine Rch.go (fun _ q => XS.imul X137.here hx rfl (hb hby at_94) rfl q) ?_
    show Rch p e below _ T137 (mkF m 95 #[.val (.int p1), .val (.int p2), .val (.int p3), .val (.int p4), .val (.int p5), .val (.int (2 : Int32)), .val (.ref aa), .unset, .unset] [(.int ((256 : Int32) * (own_u (p2.toInt8.toInt32)))), (.int (own_u (p1.toInt8.toInt32)))])
    refine Rch.go (fun _ q => XS.iadd X137.here hx rfl (hb hby at_95) rfl q) ?_
    show Rch p e below _ T137 (mkF m 96 #[.val (.int p1), .val (.int p2), .val (.int p3), .val (.int p4), .val (.int p5), .val (.int (2 : Int32)), .val (.ref aa), .unset, .unset] [(.int ((own_u (p1.toInt8.toInt32)) + ((256 : Int32) * (own_u (p2.toInt8.toInt32)))))])
    refine Rch.go (fun _ q => X137.ldcI hx (own := "com/example/tessera/tessera/LittleEndianGetUnsignedInt24PinLaw") hown (mvT hZ (hw _ (List.mem_of_getElem? (i := 6) rfl))) rfl (hb hby at_96) q) ?_
    show Rch p e below _ T137 (mkF m 98 #[.val (.int p1), .val (.int p2), .val (.int p3), .val (.int p4), .val (.int p5), .val (.int (2 : Int32)), .val (.ref aa), .unset, .unset] [(.int (65536 : Int32)), (.int ((own_u (p1.toInt8.toInt32)) + ((256 : Int32) * (own_u (p2.toInt8.toInt32)))))])
    refine Rch.go (fun _ q => XS.iloadN X137.here hx rfl (hb hby at_98) rfl  q) ?_
    show Rch p e below _ T137 (mkF m 99 #[.val (.int p1), .val (.int p2), .val (.int p3), .val (.int p4), .val (.int p5), .val (.int (2 : Int32)), .val (.ref aa), .unset, .unset] [(.int p3), (.int (65536 : Int32)), (.int ((own_u (p1.toInt8.toInt32)) + ((256 : Int32) * (own_u (p2.toInt8.toInt32)))))])
    refine Rch.go (fun _ q => XS.i2b X137.here hx rfl (hb hby at_99) rfl q) ?_
    show Rch p e below _ T137 (mkF m 100 #[.val (.int p1), .val (.int p2), .val (.int p3), .val (.int p4), .val (.int p5), .val (.int (2 : Int32)), .val (.ref aa), .unset, .unset] [(.int (p3.toInt8.toInt32)), (.int (65536 : Int32)), (.int ((own_u (p1.toInt8.toInt32)) + ((256 : Int32) * (own_u (p2.toInt8.toInt32)))))])
    obtain ⟨_, _, ⟨T138, L138, k138, n138⟩, -, X138, ⟨Lc138, hQ138, l138, y138, z138⟩, st138⟩ := Jvm.LawKit.callS X137 hx (y := (⟨"com/example/tessera/tessera/LittleEndianGetUnsignedInt24PinLaw", "u", "(B)I"⟩ : MethodName)) hown (mvT hZ (hw _ (List.mem_of_getElem? (i := 2) rfl))) (mvT hZ (hw _ (List.mem_of_getElem? (i := 3) rfl))) (mvT hZ (hw _ (List.mem_of_getElem? (i := 4) rfl))) (mvT hZ (hw _ (List.mem_of_getElem? (i := 5) rfl))) (by decide) (backOf (W := 2) (rm1 l Z a0 hw [] (p3.toInt8.toInt32) h135 n0 Z135) hZ (hw _ (List.mem_of_getElem? (i := 5) rfl)) (hw _ (List.mem_of_getElem? (i := 4) rfl)) (by decide) (by decide)) (g := (mkF m 100 #[.val (.int p1), .val (.int p2), .val (.int p3), .val (.int p4), .val (.int p5), .val (.int (2 : Int32)), .val (.ref aa), .unset, .unset] [(.int (p3.toInt8.toInt32)), (.int (65536 : Int32)), (.int ((own_u (p1.toInt8.toInt32)) + ((256 : Int32) * (own_u (p2.toInt8.toInt32)))))])) rfl (by rw [hml]; rfl) (argsL := [(.int (p3.toInt8.toInt32))]) (rest := [(.int (65536 : Int32)), (.int ((own_u (p1.toInt8.toInt32)) + ((256 : Int32) * (own_u (p2.toInt8.toInt32)))))]) (lenOf own_pd0 rfl) rfl (by show 2 * 0 + _ ≤ _; exact Nat.le_of_eq rfl) (hb hby at_100) (fun _ _ => ⟨rfl, e137, (by decide : 1 + 0 ≤ _), (by decide : 5 + 0 ≤ _)⟩)
    dsimp only [Pt.U, Pt.locs, Pt.cells, Pt.slots] at X138 l138 y138 z138 st138 hQ138
    subst l138 y138 z138
    obtain ⟨rfl, Nc, ec⟩ := hQ138
    refine Rch.go st138 ?_
    show Rch p e below _ T138 (mkF m 103 #[.val (.int p1), .val (.int p2), .val (.int p3), .val (.int p4), .val (.int p5), .val (.int (2 : Int32)), .val (.ref aa), .unset, .unset] [(.int (own_u (p3.toInt8.toInt32))), (.int (65536 : Int32)), (.int ((own_u (p1.toInt8.toInt32)) + ((256 : Int32) * (own_u (p2.toInt8.toInt32)))))])
    have N138 := Fr.app N137 Nc
    have e138 := ec
    refine Rch.go (fun _ q => XS.imul X138.here hx rfl (hb hby at_103) rfl q) ?_
    show Rch p e below _ T138 (mkF m 104 #[.val (.int p1), .val (.int p2), .val (.int p3), .val (.int p4), .val (.int p5), .val (.int (2 : Int32)), .val (.ref aa), .unset, .unset] [(.int ((65536 : Int32) * (own_u (p3.toInt8.toInt32)))), (.int ((own_u (p1.toInt8.toInt32)) + ((256 : Int32) * (own_u (p2.toInt8.toInt32)))))])
    refine Rch.go (fun _ q => XS.iadd X138.here hx rfl (hb hby at_104) rfl q) ?_
    show Rch p e below _ T138 (mkF m 105 #[.val (.int p1), .val (.int p2), .val (.int p3), .val (.int p4), .val (.int p5), .val (.int (2 : Int32)), .val (.ref aa), .unset, .unset] [(.int (((own_u (p1.toInt8.toInt32)) + ((256 : Int32) * (own_u (p2.toInt8.toInt32)))) + ((65536 : Int32) * (own_u (p3.toInt8.toInt32)))))])
    refine Rch.go (fun _ q => XS.istore X138.here hx rfl (hb hby at_105) rfl (l' := #[.val (.int p1), .val (.int p2), .val (.int p3), .val (.int p4), .val (.int p5), .val (.int (2 : Int32)), .val (.ref aa), .val (.int (((own_u (p1.toInt8.toInt32)) + ((256 : Int32) * (own_u (p2.toInt8.toInt32)))) + ((65536 : Int32) * (own_u (p3.toInt8.toInt32))))), .unset]) rfl q) ?_
    show Rch p e below _ T138 (mkF m 107 #[.val (.int p1), .val (.int p2), .val (.int p3), .val (.int p4), .val (.int p5), .val (.int (2 : Int32)), .val (.ref aa), .val (.int (((own_u (p1.toInt8.toInt32)) + ((256 : Int32) * (own_u (p2.toInt8.toInt32)))) + ((65536 : Int32) * (own_u (p3.toInt8.toInt32))))), .unset] [])
    refine Rch.go (fun _ q => XS.aload X138.here hx rfl (hb hby at_107) rfl rfl q) ?_
    show Rch p e below _ T138 (mkF m 109 #[.val (.int p1), .val (.int p2), .val (.int p3), .val (.int p4), .val (.int p5), .val (.int (2 : Int32)), .val (.ref aa), .val (.int (((own_u (p1.toInt8.toInt32)) + ((256 : Int32) * (own_u (p2.toInt8.toInt32)))) + ((65536 : Int32) * (own_u (p3.toInt8.toInt32))))), .unset] [(.ref aa)])
    refine Rch.go (fun _ q => XS.iload X138.here hx rfl (hb hby at_109) rfl  q) ?_
    show Rch p e below _ T138 (mkF m 111 #[.val (.int p1), .val (.int p2), .val (.int p3), .val (.int p4), .val (.int p5), .val (.int (2 : Int32)), .val (.ref aa), .val (.int (((own_u (p1.toInt8.toInt32)) + ((256 : Int32) * (own_u (p2.toInt8.toInt32)))) + ((65536 : Int32) * (own_u (p3.toInt8.toInt32))))), .unset] [(.int (2 : Int32)), (.ref aa)])
    obtain ⟨_, _, ⟨T139, L139, k139, n139⟩, -, X139, ⟨Lc139, hQ139, l139, y139, z139⟩, st139⟩ := Jvm.LawKit.callS X138 hx (y := (⟨"com/example/tessera/tessera/LittleEndian", "getUnsignedInt24", "([BI)I"⟩ : MethodName)) hown (mvT hZ (hw _ (List.mem_of_getElem? (i := 7) rfl))) (mvT hZ (hw _ (List.mem_of_getElem? (i := 8) rfl))) (mvT hZ (hw _ (List.mem_of_getElem? (i := 9) rfl))) (mvT hZ (hw _ (List.mem_of_getElem? (i := 10) rfl))) (by decide) (backOf (W := 0) (rm2 l Z a0 hw [] aa (2 : Int32) kk_aa 5 [(.int (nar .byte (p4.toInt8.toInt32))), (.int (nar .byte (((p4.toUInt32 >>> ((8 : Int32) &&& 31).toUInt32).toInt32).toInt8.toInt32))), (.int (nar .byte (p1.toInt8.toInt32))), (.int (nar .byte (p2.toInt8.toInt32))), (.int (nar .byte (p3.toInt8.toInt32)))] (.int 0) (nar .byte (p1.toInt8.toInt32)) (nar .byte (p2.toInt8.toInt32)) (nar .byte (p3.toInt8.toInt32)) h135 n0 Z135 V_aa_135 (by decide) rfl (by decide) rfl (by decide) rfl) hZ (hw _ (List.mem_of_getElem? (i := 10) rfl)) (hw _ (List.mem_of_getElem? (i := 9) rfl)) (by decide) (by decide)) (g := (mkF m 111 #[.val (.int p1), .val (.int p2), .val (.int p3), .val (.int p4), .val (.int p5), .val (.int (2 : Int32)), .val (.ref aa), .val (.int (((own_u (p1.toInt8.toInt32)) + ((256 : Int32) * (own_u (p2.toInt8.toInt32)))) + ((65536 : Int32) * (own_u (p3.toInt8.toInt32))))), .unset] [(.int (2 : Int32)), (.ref aa)])) rfl (by rw [hml]; rfl) (argsL := [(.ref aa), (.int (2 : Int32))]) (rest := []) (lenOf own_pd1 rfl) rfl (by show 2 * 0 + _ ≤ _; exact Nat.le_of_eq rfl) (hb hby at_111) (fun _ _ => ⟨rfl, e138, (by decide : 1 + 0 ≤ _), (by decide : 5 + 0 ≤ _)⟩)
    dsimp only [Pt.U, Pt.locs, Pt.cells, Pt.slots] at X139 l139 y139 z139 st139 hQ139
    subst l139 y139 z139
    obtain ⟨rfl, Nc, ec⟩ := hQ139
    refine Rch.go st139 ?_
    show Rch p e below _ T139 (mkF m 114 #[.val (.int p1), .val (.int p2), .val (.int p3), .val (.int p4), .val (.int p5), .val (.int (2 : Int32)), .val (.ref aa), .val (.int (((own_u (p1.toInt8.toInt32)) + ((256 : Int32) * (own_u (p2.toInt8.toInt32)))) + ((65536 : Int32) * (own_u (p3.toInt8.toInt32))))), .unset] [(.int (own_le (nar .byte (p1.toInt8.toInt32)) (nar .byte (p2.toInt8.toInt32)) (nar .byte (p3.toInt8.toInt32))))])
    have N139 := Fr.app N138 Nc
    have e139 := ec
    refine Rch.go (fun _ q => XS.istore X139.here hx rfl (hb hby at_114) rfl (l' := #[.val (.int p1), .val (.int p2), .val (.int p3), .val (.int p4), .val (.int p5), .val (.int (2 : Int32)), .val (.ref aa), .val (.int (((own_u (p1.toInt8.toInt32)) + ((256 : Int32) * (own_u (p2.toInt8.toInt32)))) + ((65536 : Int32) * (own_u (p3.toInt8.toInt32))))), .val (.int (own_le (nar .byte (p1.toInt8.toInt32)) (nar .byte (p2.toInt8.toInt32)) (nar .byte (p3.toInt8.toInt32))))]) rfl q) ?_
    show Rch p e below _ T139 (mkF m 116 #[.val (.int p1), .val (.int p2), .val (.int p3), .val (.int p4), .val (.int p5), .val (.int (2 : Int32)), .val (.ref aa), .val (.int (((own_u (p1.toInt8.toInt32)) + ((256 : Int32) * (own_u (p2.toInt8.toInt32)))) + ((65536 : Int32) * (own_u (p3.toInt8.toInt32))))), .val (.int (own_le (nar .byte (p1.toInt8.toInt32)) (nar .byte (p2.toInt8.toInt32)) (nar .byte (p3.toInt8.toInt32))))] [])
    refine Rch.go (fun _ q => XS.iload X139.here hx rfl (hb hby at_116) rfl  q) ?_
    show Rch p e below _ T139 (mkF m 118 #[.val (.int p1), .val (.int p2), .val (.int p3), .val (.int p4), .val (.int p5), .val (.int (2 : Int32)), .val (.ref aa), .val (.int (((own_u (p1.toInt8.toInt32)) + ((256 : Int32) * (own_u (p2.toInt8.toInt32)))) + ((65536 : Int32) * (own_u (p3.toInt8.toInt32))))), .val (.int (own_le (nar .byte (p1.toInt8.toInt32)) (nar .byte (p2.toInt8.toInt32)) (nar .byte (p3.toInt8.toInt32))))] [(.int (own_le (nar .byte (p1.toInt8.toInt32)) (nar .byte (p2.toInt8.toInt32)) (nar .byte (p3.toInt8.toInt32))))])
    refine Rch.go (fun _ q => XS.iload X139.here hx rfl (hb hby at_118) rfl  q) ?_
    show Rch p e below _ T139 (mkF m 120 #[.val (.int p1), .val (.int p2), .val (.int p3), .val (.int p4), .val (.int p5), .val (.int (2 : Int32)), .val (.ref aa), .val (.int (((own_u (p1.toInt8.toInt32)) + ((256 : Int32) * (own_u (p2.toInt8.toInt32)))) + ((65536 : Int32) * (own_u (p3.toInt8.toInt32))))), .val (.int (own_le (nar .byte (p1.toInt8.toInt32)) (nar .byte (p2.toInt8.toInt32)) (nar .byte (p3.toInt8.toInt32))))] [(.int (((own_u (p1.toInt8.toInt32)) + ((256 : Int32) * (own_u (p2.toInt8.toInt32)))) + ((65536 : Int32) * (own_u (p3.toInt8.toInt32))))), (.int (own_le (nar .byte (p1.toInt8.toInt32)) (nar .byte (p2.toInt8.toInt32)) (nar .byte (p3.toInt8.toInt32))))])
    refine Rch.go (fun _ q => XS.icmpNo X139.here hx rfl (hb hby at_120) rfl (teq (own_law p1 p2 p3)).2 q) ?_
    show Rch p e below _ T139 (mkF m 123 #[.val (.int p1), .val (.int p2), .val (.int p3), .val (.int p4), .val (.int p5), .val (.int (2 : Int32)), .val (.ref aa), .val (.int (((own_u (p1.toInt8.toInt32)) + ((256 : Int32) * (own_u (p2.toInt8.toInt32)))) + ((65536 : Int32) * (own_u (p3.toInt8.toInt32))))), .val (.int (own_le (nar .byte (p1.toInt8.toInt32)) (nar .byte (p2.toInt8.toInt32)) (nar .byte (p3.toInt8.toInt32))))] [])
    refine Rch.go (fun _ q => XS.iload X139.here hx rfl (hb hby at_123) rfl  q) ?_
    show Rch p e below _ T139 (mkF m 125 #[.val (.int p1), .val (.int p2), .val (.int p3), .val (.int p4), .val (.int p5), .val (.int (2 : Int32)), .val (.ref aa), .val (.int (((own_u (p1.toInt8.toInt32)) + ((256 : Int32) * (own_u (p2.toInt8.toInt32)))) + ((65536 : Int32) * (own_u (p3.toInt8.toInt32))))), .val (.int (own_le (nar .byte (p1.toInt8.toInt32)) (nar .byte (p2.toInt8.toInt32)) (nar .byte (p3.toInt8.toInt32))))] [(.int (own_le (nar .byte (p1.toInt8.toInt32)) (nar .byte (p2.toInt8.toInt32)) (nar .byte (p3.toInt8.toInt32))))])
    refine Rch.go (fun _ q => XS.ifNo X139.here hx rfl (hb hby at_125) rfl ((if0 _ _).trans (flt (own_pos _ _ _).1).1) q) ?_
    show Rch p e below _ T139 (mkF m 128 #[.val (.int p1), .val (.int p2), .val (.int p3), .val (.int p4), .val (.int p5), .val (.int (2 : Int32)), .val (.ref aa), .val (.int (((own_u (p1.toInt8.toInt32)) + ((256 : Int32) * (own_u (p2.toInt8.toInt32)))) + ((65536 : Int32) * (own_u (p3.toInt8.toInt32))))), .val (.int (own_le (nar .byte (p1.toInt8.toInt32)) (nar .byte (p2.toInt8.toInt32)) (nar .byte (p3.toInt8.toInt32))))] [])
    refine Rch.go (fun _ q => XS.iload X139.here hx rfl (hb hby at_128) rfl  q) ?_
    show Rch p e below _ T139 (mkF m 130 #[.val (.int p1), .val (.int p2), .val (.int p3), .val (.int p4), .val (.int p5), .val (.int (2 : Int32)), .val (.ref aa), .val (.int (((own_u (p1.toInt8.toInt32)) + ((256 : Int32) * (own_u (p2.toInt8.toInt32)))) + ((65536 : Int32) * (own_u (p3.toInt8.toInt32))))), .val (.int (own_le (nar .byte (p1.toInt8.toInt32)) (nar .byte (p2.toInt8.toInt32)) (nar .byte (p3.toInt8.toInt32))))] [(.int (own_le (nar .byte (p1.toInt8.toInt32)) (nar .byte (p2.toInt8.toInt32)) (nar .byte (p3.toInt8.toInt32))))])
    refine Rch.go (fun _ q => X139.ldcI hx (own := "com/example/tessera/tessera/LittleEndianGetUnsignedInt24PinLaw") hown (mvT hZ (hw _ (List.mem_of_getElem? (i := 11) rfl))) rfl (hb hby at_130) q) ?_
    show Rch p e below _ T139 (mkF m 132 #[.val (.int p1), .val (.int p2), .val (.int p3), .val (.int p4), .val (.int p5), .val (.int (2 : Int32)), .val (.ref aa), .val (.int (((own_u (p1.toInt8.toInt32)) + ((256 : Int32) * (own_u (p2.toInt8.toInt32)))) + ((65536 : Int32) * (own_u (p3.toInt8.toInt32))))), .val (.int (own_le (nar .byte (p1.toInt8.toInt32)) (nar .byte (p2.toInt8.toInt32)) (nar .byte (p3.toInt8.toInt32))))] [(.int (16777215 : Int32)), (.int (own_le (nar .byte (p1.toInt8.toInt32)) (nar .byte (p2.toInt8.toInt32)) (nar .byte (p3.toInt8.toInt32))))])
    refine Rch.go (fun _ q => XS.icmpNo X139.here hx rfl (hb hby at_132) rfl (flt (own_pos _ _ _).2).2.2.1 q) ?_
    show Rch p e below _ T139 (mkF m 135 #[.val (.int p1), .val (.int p2), .val (.int p3), .val (.int p4), .val (.int p5), .val (.int (2 : Int32)), .val (.ref aa), .val (.int (((own_u (p1.toInt8.toInt32)) + ((256 : Int32) * (own_u (p2.toInt8.toInt32)))) + ((65536 : Int32) * (own_u (p3.toInt8.toInt32))))), .val (.int (own_le (nar .byte (p1.toInt8.toInt32)) (nar .byte (p2.toInt8.toInt32)) (nar .byte (p3.toInt8.toInt32))))] [])
    refine Rch.go (fun _ q => XS.iconst X139.here hx rfl (hb hby at_135) q) ?_
    show Rch p e below _ T139 (mkF m 136 #[.val (.int p1), .val (.int p2), .val (.int p3), .val (.int p4), .val (.int p5), .val (.int (2 : Int32)), .val (.ref aa), .val (.int (((own_u (p1.toInt8.toInt32)) + ((256 : Int32) * (own_u (p2.toInt8.toInt32)))) + ((65536 : Int32) * (own_u (p3.toInt8.toInt32))))), .val (.int (own_le (nar .byte (p1.toInt8.toInt32)) (nar .byte (p2.toInt8.toInt32)) (nar .byte (p3.toInt8.toInt32))))] [(.int (1 : Int32))])
    refine Rch.go (fun _ q => XS.goto X139.here hx rfl (pc0 := 136) (pc' := 140) rfl (hb hby at_136) (by decide) (by decide) q) ?_
    show Rch p e below _ T139 (mkF m 140 #[.val (.int p1), .val (.int p2), .val (.int p3), .val (.int p4), .val (.int p5), .val (.int (2 : Int32)), .val (.ref aa), .val (.int (((own_u (p1.toInt8.toInt32)) + ((256 : Int32) * (own_u (p2.toInt8.toInt32)))) + ((65536 : Int32) * (own_u (p3.toInt8.toInt32))))), .val (.int (own_le (nar .byte (p1.toInt8.toInt32)) (nar .byte (p2.toInt8.toInt32)) (nar .byte (p3.toInt8.toInt32))))] [(.int (1 : Int32))])
    refine Rch.retZ X139 hx hlk Bd.returns (hb hby at_140) (by decide) (by decide) ?_
    unfold Qrm0
    exact ⟨rfl, N139⟩
set_option maxRecDepth 65536 in
set_option maxHeartbeats 40000000 in
theorem comes_1 {Post : Tables → Env → Array Value → State → Outcome → State → Prop} (hpost : ∀ tb e args s v u, (limb_1_1.after args s (.returned v) u = true ∧ limb_1_2.after args s (.returned v) u = true ∧ True) → FrameEnd s (.returned v) u (Jvm.fieldLocs frame_1_writes args s ++ Jvm.arrayLocs frame_1_arrays args s ++ Jvm.staticLocs frame_1_statics s) 16 128 → Post tb e args s (.returned v) u) :
    ArmFor flags0 classFile x code maxLocals ret World_1 tables_1 room_1 Calls_1 rest_1 Pre_1 Post := by
  intro l hfl _ _ p e ha hc hk s m args below hf hA hF happ hP
  obtain ⟨hcalls, hrest, hpre⟩ := hP
  obtain ⟨-, -, -, hnamed, -, -, -, hat⟩ := (Spec.applies_iff hf).mp happ
  obtain ⟨hg, hn⟩ := and_e (Cond.before_iff.mp (show (Jvm.Cond.and given_1 narrow_1).before args s = true from hpre))
  obtain ⟨hcnt, hr0⟩ := and_e hg
  obtain ⟨w0, w1, w2, w3, w4, rfl⟩ : ∃ w0 w1 w2 w3 w4 : Value, args = #[w0, w1, w2, w3, w4] := by
    have hs : args.size = 5 := by simpa [Cond.value, given_1] using hcnt
    obtain ⟨L⟩ := args
    match L, hs with
    | [w0, w1, w2, w3, w4], _ => exact ⟨w0, w1, w2, w3, w4, rfl⟩
  have hw := fun d (hd : d ∈ tables_1) => atoms_spec (ws := Jvm.Cond.code x code maxLocals ret :: tables_1) hat d (List.mem_cons_of_mem _ hd)
  obtain ⟨ha0, hr1⟩ := and_e hr0
  obtain ⟨i0, e0⟩ := is_v ha0
  obtain rfl : w0 = (.int i0) := Option.some.inj e0
  obtain ⟨ha1, hr2⟩ := and_e hr1
  obtain ⟨i1, e1⟩ := is_v ha1
  obtain rfl : w1 = (.int i1) := Option.some.inj e1
  obtain ⟨ha2, hr3⟩ := and_e hr2
  obtain ⟨i2, e2⟩ := is_v ha2
  obtain rfl : w2 = (.int i2) := Option.some.inj e2
  obtain ⟨ha3, hr4⟩ := and_e hr3
  obtain ⟨i3, e3⟩ := is_v ha3
  obtain rfl : w3 = (.int i3) := Option.some.inj e3
  obtain ⟨i4, e4⟩ := is_v hr4
  obtain rfl : w4 = (.int i4) := Option.some.inj e4
  obtain ⟨n, o, h1, h2, h3, _, L, rfl, ⟨rfl, N⟩, hq⟩ := rm0 l s _ hw tables_1 i0 i1 i2 i3 i4 s.heap s.heap.size (Nat.le_refl _) p e ha hc hk s m _ below hf ((Spec.applies_iff_loose hf).mp happ).1 ⟨rfl, State.Warmed39.refl s, rfl⟩ trivial
  refine ⟨n, _, h1, h2, h3, hpost _ _ _ _ _ _ ⟨Cond.after_iff.mpr rfl, Cond.after_iff.mpr (eq_i res_at (Term.int_eval (1)) rfl), trivial⟩ ⟨hq.1, hq.2.1, (hq.2.2.sift fun y hy => Or.inr (N y hy)).mono (by decide) (by decide)⟩⟩
theorem main_1_1 : Claimed_1_1 := comes_1 fun _ _ _ _ _ _ h hF => ⟨h.1, hF⟩
theorem main_1_2 : Claimed_1_2 := comes_1 fun _ _ _ _ _ _ h hF => ⟨h.2.1, hF⟩
end Jvm.Pilot.@@N@@
namespace Jvm.Pilot.@@N@@
open Jvm Jvm.ClassFile Sem Op Lib Jvm.Free Jvm.Stand Jvm.Pilot.@@N@@.Jvm.D
/-! MADE BY PROGRAM (witnessworld.py) out of the Statement's table words and the real class files: 9 classes; the members and pool entries that the words name. The judged class is class 1, her method 2. -/
namespace start1
open Jvm.ClassFile
def u (s : String) : CpInfo := .utf8 (stringToUtf16 s)
/-- a pool by its gaps: so many unusable entries, then the entry; so many at the end -/
def gap : Nat → List CpInfo → List CpInfo
  | 0, r => r
  | n + 1, r => .unusable :: gap n r
def poolList (es : List (Nat × CpInfo)) (last : Nat) : List CpInfo := es.foldr (fun e r => gap e.1 (e.2 :: r)) (gap last [])
def pool (es : List (Nat × CpInfo)) (last : Nat) : Array CpInfo := ⟨poolList es last⟩
def fileOf (pool : Array CpInfo) (this : Nat) (attrs : Array Attribute := #[]) (ms : Array MethodInfo := #[]) (fl : Nat := 33) (sup : Nat := 0) (ifs : Array Nat := #[]) (fds : Array FieldInfo := #[]) : ClassFile where
  minorVersion := 0
  majorVersion := 65
  constantPool := pool
  accessFlags := fl
  thisClass := this
  superClass := sup
  interfaces := ifs
  fields := fds
  methods := ms
  attributes := attrs
def plain (name : String) (sup : Option ClassId) : Class where
  name := name
  kind := .ordinary
  loader := none
  accessFlags := 33
  super := sup
  interfaces := #[]
  cf := none
  fields := #[]
  methods := #[]
  instanceTypes := #[]
  staticTypes := #[]
  resolved := #[]
  callSites := []
  init := .initialized
  statics := none
  mirror := none

def pool0 : Array CpInfo := pool [(5, u "<init>"), (0, u "()V"), (1, .class_ 10), (1, u "java/lang/Object")] 113

def k0m0 : Method := { name := "<init>", desc := "()V", sig := { parameters := [], returnType := none }, accessFlags := 1, code := none }
/-- java/lang/Object -/
def k0 : Class := { plain "java/lang/Object" none with
  accessFlags := 33
  interfaces := #[]
  cf := some (fileOf pool0 8 #[] #[{ accessFlags := 1, nameIndex := 5, descriptorIndex := 6, attributes := #[] }] 33 0 #[] #[])
  fields := #[]
  methods := #[k0m0]
  instanceTypes := #[]
  staticTypes := #[]
  resolved := Array.replicate 124 none
  statics := none }

def pool1 : Array CpInfo := pool [(2, .class_ 4), (1, u "java/lang/Object"), (0, u "<init>"), (0, u "()V"), (0, .integer 2147483647), (0, .methodref 9 10), (0, .class_ 11), (0, .nameAndType 12 13), (0, u "com/example/tessera/tessera/LittleEndianGetUnsignedInt24PinLaw"), (0, u "u"), (0, u "(B)I"), (0, .integer 65536), (0, .methodref 16 17), (0, .class_ 18), (0, .nameAndType 19 20), (0, u "com/example/tessera/tessera/LittleEndian"), (0, u "getUnsignedInt24"), (0, u "([BI)I"), (0, .integer 16777215), (3, u "law"), (0, u "(IIIII)Z")] 4

def k1m0 : Method := { name := "<init>", desc := "()V", sig := { parameters := [], returnType := none }, accessFlags := 1, code := none }
def k1c1 : Code := { maxStack := 2, maxLocals := 2, code := method_2_code, exceptionTable := #[], attributes := #[] }
def k1m1 : Method := { name := "u", desc := "(B)I", sig := { parameters := [.byte], returnType := some .int }, accessFlags := 10, code := some k1c1 }
def k1c2 : Code := { maxStack := 4, maxLocals := 9, code := code, exceptionTable := #[], attributes := #[] }
def k1m2 : Method := { name := "law", desc := "(IIIII)Z", sig := { parameters := [.int, .int, .int, .int, .int], returnType := some .boolean }, accessFlags := 9, code := some k1c2 }
/-- com/example/tessera/tessera/LittleEndianGetUnsignedInt24PinLaw -/
def k1 : Class := { plain "com/example/tessera/tessera/LittleEndianGetUnsignedInt24PinLaw" (some 0) with
  accessFlags := 49
  interfaces := #[]
  cf := some (fileOf pool1 9 #[] #[{ accessFlags := 1, nameIndex := 5, descriptorIndex := 6, attributes := #[] }, { accessFlags := 10, nameIndex := 12, descriptorIndex := 13, attributes := #[] }, { accessFlags := 9, nameIndex := 25, descriptorIndex := 26, attributes := #[] }] 49 2 #[] #[])
  fields := #[]
  methods := #[k1m0, k1m1, k1m2]
  instanceTypes := #[]
  staticTypes := #[]
  resolved := Array.replicate 31 none
  statics := none }

def pool2 : Array CpInfo := pool [(2, .class_ 4), (1, u "java/lang/Object"), (0, u "<init>"), (0, u "()V"), (1, .class_ 10), (1, u "com/example/tessera/tessera/LittleEndian"), (0, u "SHORTS"), (0, u "Ljava/lang/invoke/VarHandle;"), (9, u "INTS"), (2, u "([BI)I"), (2, u "LONGS"), (28, u "getUnsignedInt24")] 6

def k2m0 : Method := { name := "<init>", desc := "()V", sig := { parameters := [], returnType := none }, accessFlags := 2, code := none }
def k2c1 : Code := { maxStack := 4, maxLocals := 2, code := prog_34_method_3_code, exceptionTable := #[], attributes := #[] }
def k2m1 : Method := { name := "getUnsignedInt24", desc := "([BI)I", sig := { parameters := [(.array .byte), .int], returnType := some .int }, accessFlags := 8, code := some k2c1 }
/-- com/example/tessera/tessera/LittleEndian -/
def k2 : Class := { plain "com/example/tessera/tessera/LittleEndian" (some 0) with
  accessFlags := 48
  interfaces := #[]
  cf := some (fileOf pool2 8 #[] #[{ accessFlags := 2, nameIndex := 5, descriptorIndex := 6, attributes := #[] }, { accessFlags := 8, nameIndex := 57, descriptorIndex := 25, attributes := #[] }] 48 2 #[] #[{ accessFlags := 26, nameIndex := 11, descriptorIndex := 12, attributes := #[] }, { accessFlags := 26, nameIndex := 22, descriptorIndex := 12, attributes := #[] }, { accessFlags := 26, nameIndex := 28, descriptorIndex := 12, attributes := #[] }])
  fields := #[{ name := "SHORTS", type := (.object "java/lang/invoke/VarHandle"), accessFlags := 26, slot := 0, constantValue := 0 }, { name := "INTS", type := (.object "java/lang/invoke/VarHandle"), accessFlags := 26, slot := 1, constantValue := 0 }, { name := "LONGS", type := (.object "java/lang/invoke/VarHandle"), accessFlags := 26, slot := 2, constantValue := 0 }]
  methods := #[k2m0, k2m1]
  instanceTypes := #[]
  staticTypes := #[(.object "java/lang/invoke/VarHandle"), (.object "java/lang/invoke/VarHandle"), (.object "java/lang/invoke/VarHandle")]
  resolved := Array.replicate 64 none
  statics := none }

def pool3 : Array CpInfo := pool [(1, u "java/lang/Cloneable"), (0, .class_ 1), (0, u "java/lang/Object"), (0, .class_ 3)] 3

/-- java/lang/Cloneable -/
def k3 : Class := { plain "java/lang/Cloneable" (some 0) with
  accessFlags := 1537
  interfaces := #[]
  cf := some (fileOf pool3 2 #[] #[] 1537 4 #[] #[])
  fields := #[]
  methods := #[]
  instanceTypes := #[]
  staticTypes := #[]
  resolved := Array.replicate 8 none
  statics := none }

def pool4 : Array CpInfo := pool [(1, u "java/io/Serializable"), (0, .class_ 1), (0, u "java/lang/Object"), (0, .class_ 3)] 3

/-- java/io/Serializable -/
def k4 : Class := { plain "java/io/Serializable" (some 0) with
  accessFlags := 1537
  interfaces := #[]
  cf := some (fileOf pool4 2 #[] #[] 1537 4 #[] #[])
  fields := #[]
  methods := #[]
  instanceTypes := #[]
  staticTypes := #[]
  resolved := Array.replicate 8 none
  statics := none }

/-- the primitive byte -/
def k5 : Class := { plain "byte" none with kind := .primitive 'B', accessFlags := 0x411 }
/-- [B -/
def k6 : Class := { plain "[B" (some 0) with kind := .array 5 .byte, interfaces := #[3, 4], accessFlags := 1041 }

/-- the primitive int -/
def k7 : Class := { plain "int" none with kind := .primitive 'I', accessFlags := 0x411 }
/-- [I -/
def k8 : Class := { plain "[I" (some 0) with kind := .array 7 .int, interfaces := #[3, 4], accessFlags := 1041 }

def heap : Heap := #[]
def classes : Array Class := #[k0, k1, k2, k3, k4, k5, k6, k7, k8]
def interned : List (Array UInt16 × Addr) := []
def slotsUsed : Nat := 0
def theMethod : MethodId := ⟨1, 2⟩
def args0 : Array Value := #[.int 300, .int 5, .int 7, .int 9, .int 4]
def aboutOver (below : List Frame) : State where
  vm := { classes := classes, interned := interned.toArray }
  heap := heap
  slotsUsed := slotsUsed
  threads := #[{ frames := .invoking theMethod args0 :: below }]
def below0 : List Frame := [.native { method := ⟨0, 0⟩, args := #[] }]
def about1 : State := aboutOver below0
def p0 : Program := .bare "" "" ""
def e0 : Env := launch0.env 0 0 0
theorem w_frames : about1.frames = Frame.invoking theMethod args0 :: below0 := rfl
set_option maxRecDepth 65536 in
theorem w_args : argsFit about1.vm theMethod args0 = true := by decide +kernel
set_option maxRecDepth 65536 in
theorem w_heap : heapFits about1 = true := by decide +kernel
set_option maxRecDepth 65536 in
theorem w_runnable : about1.curStatus? = some .runnable := by decide +kernel
set_option maxRecDepth 65536 in
theorem w_alone : about1.alone = true := by decide +kernel
set_option maxRecDepth 65536 in
theorem w_named : about1.methodNamed? x = some theMethod := by decide +kernel
set_option maxRecDepth 65536 in
theorem w_hears : about1.hears theMethod below0 = true := by decide +kernel
set_option maxRecDepth 65536 in
theorem w_ripe : about1.ripe theMethod args0 below0 = true := by decide +kernel
theorem w_running : about1.status = .running := rfl
set_option maxRecDepth 65536 in
theorem w_room : about1.hasRoom e0.platform room_1 = true :=
  launch0.hasRoom_least _ room_1 (by decide +kernel) (by decide +kernel) (by decide +kernel) (by decide +kernel) (by decide +kernel) (by decide +kernel)
theorem allAtoms_all (ts : List Jvm.Cond) (a : Array Jvm.Value) (st : Jvm.State) : (allAtoms ts).before a st = ts.all (fun c => c.before a st) := by
  induction ts with
  | nil => rfl
  | cons c t ih =>
    show (Jvm.Cond.and c (allAtoms t)).before a st = _
    rw [Jvm.Cond.before_and, ih, List.all_cons]
def words1 : List Jvm.Cond := Jvm.Cond.code x code maxLocals ret :: tables_1
/-- a 'code' word, met by the world's own term for the bytes: nothing is compared byte by byte -/
theorem code_word {y : MethodName} {bytes : ByteArray} {mx : Nat} {rt : Option FieldType} {a : Array Value} {s : State} {m : MethodId} {meth : Method} {c : Code} (h1 : s.methodNamed? y = some m) (h2 : s.vm.method? m = some meth) (h3 : meth.code = some c) (h4 : c.code = bytes)
    (h5 : (c.maxLocals == mx && c.exceptionTable.isEmpty && decide (c.maxStack ≤ mostOperands) && decide (meth.sig.returnType = rt) && !meth.locks && decide (parseMethodDescriptor y.desc = some meth.sig)) = true) : (Jvm.Cond.code y bytes mx rt).before a s = true := by
  simp only [Bool.and_eq_true, beq_iff_eq, Bool.not_eq_true', decide_eq_true_eq] at h5
  obtain ⟨⟨⟨⟨⟨g1, g2⟩, g3⟩, g4⟩, g5⟩, g6⟩ := h5
  simp [Cond.before, Cond.holds, Cond.value, h1, h2, h3, h4, g1, g2, g3, g4, g5, g6]
def isCode : Jvm.Cond → Bool
  | .code _ _ _ _ => true
  | _ => false
theorem all_split {L : List Jvm.Cond} {P : Jvm.Cond → Bool} (h1 : L.all (fun c => isCode c || P c) = true) (h2 : ∀ c ∈ L.filter isCode, P c = true) : L.all P = true := by
  refine List.all_eq_true.mpr fun c hc => ?_
  have h := List.all_eq_true.mp h1 c hc
  rcases Bool.eq_false_or_eq_true (isCode c) with hi | hi
  · exact h2 c (List.mem_filter.mpr ⟨hc, hi⟩)
  · simpa [hi] using h
set_option maxRecDepth 65536 in
theorem w_c0 : (Jvm.Cond.code x code maxLocals ret).before args0 about1 = true := code_word (m := ⟨1, 2⟩) (meth := k1m2) (c := k1c2) (by decide +kernel) rfl rfl rfl (by decide +kernel)
set_option maxRecDepth 65536 in
theorem w_c1 : (Jvm.Cond.code ({ cls := "com/example/tessera/tessera/LittleEndianGetUnsignedInt24PinLaw", name := "u", desc := "(B)I" } : Jvm.MethodName) method_2_code (2 : Nat) (Option.some Jvm.ClassFile.FieldType.int)).before args0 about1 = true := code_word (m := ⟨1, 1⟩) (meth := k1m1) (c := k1c1) (by decide +kernel) rfl rfl rfl (by decide +kernel)
set_option maxRecDepth 65536 in
theorem w_c2 : (Jvm.Cond.code ({ cls := "com/example/tessera/tessera/LittleEndian", name := "getUnsignedInt24", desc := "([BI)I" } : Jvm.MethodName) prog_34_method_3_code (2 : Nat) (Option.some Jvm.ClassFile.FieldType.int)).before args0 about1 = true := code_word (m := ⟨2, 1⟩) (meth := k2m1) (c := k2c1) (by decide +kernel) rfl rfl rfl (by decide +kernel)
def codes1 : List Jvm.Cond := [Jvm.Cond.code x code maxLocals ret, Jvm.Cond.code ({ cls := "com/example/tessera/tessera/LittleEndianGetUnsignedInt24PinLaw", name := "u", desc := "(B)I" } : Jvm.MethodName) method_2_code (2 : Nat) (Option.some Jvm.ClassFile.FieldType.int), Jvm.Cond.code ({ cls := "com/example/tessera/tessera/LittleEndian", name := "getUnsignedInt24", desc := "([BI)I" } : Jvm.MethodName) prog_34_method_3_code (2 : Nat) (Option.some Jvm.ClassFile.FieldType.int)]
set_option maxRecDepth 65536 in
theorem codes_eq : words1.filter isCode = codes1 := rfl
theorem w_codes : ∀ c ∈ words1.filter isCode, c.before args0 about1 = true := by
  rw [codes_eq]
  intro c hc
  simp only [codes1, List.mem_cons, List.not_mem_nil, or_false] at hc
  rcases hc with rfl | rfl | rfl
  · exact w_c0
  · exact w_c1
  · exact w_c2
set_option maxRecDepth 65536 in
theorem w_t1 : words1.all (fun c => isCode c || c.before args0 about1) = true := by decide +kernel
theorem w_tables : (allAtoms (Jvm.Cond.code x code maxLocals ret :: tables_1)).before args0 about1 = true := by
  rw [allAtoms_all]
  show words1.all (fun c => c.before args0 about1) = true
  refine all_split ?_ w_codes
  rw [w_t1]
set_option maxRecDepth 65536 in
theorem w_case : (Jvm.Cond.and given_1 narrow_1).before args0 about1 = true := by decide +kernel
theorem w_applies : (headSpec (Jvm.Cond.code x code maxLocals ret :: tables_1) room_1).applies x e0.platform about1 = true :=
  (Spec.applies_iff w_frames).mpr ⟨w_running, w_runnable, w_alone, w_named, w_hears, w_ripe, w_room, w_tables⟩
theorem atStart : AtStart classFile x code maxLocals ret World_1 tables_1 room_1 Calls_1 rest_1 Pre_1 launch0 p0 e0 about1 theMethod args0 below0 :=
  ⟨lists_1, trivial, launch0.admits_env _ _ _, launch0.least_env, fairChoices_fair.cas, fairChoices_fair.clock, w_frames, w_args, w_heap, w_applies, trivial, trivial, w_case⟩
end start1
theorem witness_1 : WitnessClaimed_1 := ⟨start1.p0, start1.e0, start1.about1, start1.theMethod, start1.args0, start1.below0, start1.atStart⟩
end Jvm.Pilot.@@N@@
