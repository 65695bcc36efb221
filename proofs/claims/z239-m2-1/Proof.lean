import JvmDerived
import JvmDerived.Pilot.@@N@@Statement
import JvmDerived.Pilot.@@N@@Code
set_option linter.unusedVariables false
set_option linter.unusedSimpArgs false
namespace Jvm.RoadKit
open Sem ClassFile Op Lib Jvm.Stand Jvm.Free Jvm.LawKit
section Own
variable {p : Program} {l : Launch} {e : Env} {R : Room} {s : State} {m : MethodId} {args : Array Value} {below : List Frame} {meth : Method} {c : Code} {T : State} {locs : List Loc} {cells slots : Nat} {Z : State} {a0 : Array Value} {h h' : Heap}
theorem retI (X : Stand p l e R s m args below meth c T locs cells slots) (hx : p.tables.exec = Jvm.exec) {pc : Nat} {Ls : Array Slot} {z : Int32} {rest : List Value} (hret : meth.sig.returnType = some .int) (hd : decode c.code pc = .ok (.ireturn, 1)) {fs : List Frame}
    (hl : ∀ (f : JFrame) (acts : List Action), f.method = m → f.locked = none → f.entered = [] → (doReturn e (T.setTop f) acts (some (.int z))).1 = T.setFrames fs) : Steps p.tables e below (T.setTop (mkF m pc Ls (.int z :: rest))) (T.setFrames fs) := by
  have hm' : T.vm.method? m = some meth := X.method'
  have hn : narrow .int (.int z) = .int z := rfl
  show Steps p.tables e below (T.setTop { method := m, pc := pc, locals := Ls, stack := _ :: rest, locked := none }) _
  jvm_step X.here [X.here.top, hx, hd, hm', hret, hn]
  first | (intro acts; rw [hl _ acts rfl rfl rfl]) | rw [hl _ _ rfl rfl rfl]
  exact Steps.refl _
/-- from this frame the walk comes to an end that says G -/
def Rch (p : Program) (e : Env) (below : List Frame) (G : State → Outcome → Prop) (T : State) (g : JFrame) : Prop :=
  ∃ s₂ o, Steps p.tables e below (T.setTop g) s₂ ∧ s₂.status = .running ∧ Ended s₂ below o ∧ G s₂ o
variable {G : State → Outcome → Prop} {T' : State} {g g' : JFrame}
theorem Rch.go (st : ∀ t, Steps p.tables e below (T'.setTop g') t → Steps p.tables e below (T.setTop g) t) (k : Rch p e below G T' g') : Rch p e below G T g := by
  obtain ⟨s2, o, a, b⟩ := k
  exact ⟨s2, o, st _ a, b⟩
theorem Rch.jump (st : Steps p.tables e below (T.setTop g) (T'.setTop g')) (k : Rch p e below G T' g') : Rch p e below G T g := Rch.go (fun _ q => st.trans q) k
theorem Rch.entry {n : Nat} (q : entryFrame m args n = g) (k : Rch p e below G T g) : ∃ s₂ o, Steps p.tables e below (T.setTop (entryFrame m args n)) s₂ ∧ s₂.status = .running ∧ Ended s₂ below o ∧ G s₂ o := by rw [q]; exact k
/-- what a contract says of its end -/
def EndQ (Q : Option Value → Heap → List Loc → Prop) (U : State) (kc ks : Nat) (U' : State) (o : Outcome) : Prop := ∃ v L, o = .returned v ∧ Q v U'.heap L ∧ FrameEnd U o U' L kc ks
variable {Q : Option Value → Heap → List Loc → Prop} {kc ks : Nat} {pc : Nat} {Ls : Array Slot} {rest : List Value}
theorem Rch.retI (X : Stand p l e R s m args below meth c T locs cells slots) (hx : p.tables.exec = Jvm.exec) (hlk : meth.locks = false) {z : Int32} (hret : meth.sig.returnType = some .int) (hd : decode c.code pc = .ok (.ireturn, 1)) (hc : cells ≤ kc) (hs : slots ≤ ks) (hQ : Q (some (.int z)) T.heap locs) : Rch p e below (EndQ Q s kc ks) T (mkF m pc Ls (.int z :: rest)) := by
  obtain ⟨fs, hr, hrun, hended, hW, hsame⟩ := X.leave (v := some (.int z)) (fun h => by rw [hret] at h; cases h)
  exact ⟨_, _, Jvm.RoadKit.retI X hx hret hd hr, hrun, hended, _, _, rfl, hQ, ⟨_, rfl⟩, hW, hsame.mono hc hs⟩
theorem Rch.retZ (X : Stand p l e R s m args below meth c T locs cells slots) (hx : p.tables.exec = Jvm.exec) (hlk : meth.locks = false) {z : Int32} (hret : meth.sig.returnType = some .boolean) (hd : decode c.code pc = .ok (.ireturn, 1)) (hc : cells ≤ kc) (hs : slots ≤ ks) (hQ : Q (some (.int (nar .boolean z))) T.heap locs) : Rch p e below (EndQ Q s kc ks) T (mkF m pc Ls (.int z :: rest)) := by
  obtain ⟨fs, hr, hrun, hended, hW, hsame⟩ := X.leave (v := some (.int (nar .boolean z))) (fun h => by rw [hret] at h; cases h)
  exact ⟨_, _, retN X hx hret (Or.inl rfl) hd hr, hrun, hended, _, _, rfl, hQ, ⟨_, rfl⟩, hW, hsame.mono hc hs⟩
theorem Rch.retJ (X : Stand p l e R s m args below meth c T locs cells slots) (hx : p.tables.exec = Jvm.exec) (hlk : meth.locks = false) {z : Int64} (hret : meth.sig.returnType = some .long) (hd : decode c.code pc = .ok (.lreturn, 1)) (hc : cells ≤ kc) (hs : slots ≤ ks) (hQ : Q (some (.long z)) T.heap locs) : Rch p e below (EndQ Q s kc ks) T (mkF m pc Ls (.long z :: rest)) := by
  obtain ⟨fs, hr, hrun, hended, hW, hsame⟩ := X.leave (v := some (.long z)) (fun h => by rw [hret] at h; cases h)
  exact ⟨_, _, retOut X hx hret rfl (Or.inr (Or.inl ⟨rfl, rfl, _, rfl⟩)) hd hr, hrun, hended, _, _, rfl, hQ, ⟨_, rfl⟩, hW, hsame.mono hc hs⟩
theorem Rch.retA (X : Stand p l e R s m args below meth c T locs cells slots) (hx : p.tables.exec = Jvm.exec) (hlk : meth.locks = false) {a : Addr} {t : FieldType} (ht : t.isReference = true) (hn : narrow t (.ref a) = .ref a) (hret : meth.sig.returnType = some t) (hd : decode c.code pc = .ok (.areturn, 1)) (hc : cells ≤ kc) (hs : slots ≤ ks) (hQ : Q (some (.ref a)) T.heap locs) : Rch p e below (EndQ Q s kc ks) T (mkF m pc Ls (.ref a :: rest)) := by
  obtain ⟨fs, hr, hrun, hended, hW, hsame⟩ := X.leave (v := some (.ref a)) (fun h => by rw [hret] at h; cases h)
  exact ⟨_, _, retOut X hx hret hn (Or.inr (Or.inr (Or.inr (Or.inr ⟨rfl, ht, rfl⟩)))) hd hr, hrun, hended, _, _, rfl, hQ, ⟨_, rfl⟩, hW, hsame.mono hc hs⟩
theorem Rch.retV (X : Stand p l e R s m args below meth c T locs cells slots) (hx : p.tables.exec = Jvm.exec) (hlk : meth.locks = false) (hret : meth.sig.returnType = none) (hd : decode c.code pc = .ok (.return_, 1)) (hc : cells ≤ kc) (hs : slots ≤ ks) (hQ : Q none T.heap locs) : Rch p e below (EndQ Q s kc ks) T (mkF m pc Ls []) := by
  obtain ⟨fs, hr, hrun, hended, hW, hsame⟩ := X.leave (v := none) (fun _ => rfl)
  exact ⟨_, _, X.returnOut hx hret hd hr, hrun, hended, _, _, rfl, hQ, ⟨_, rfl⟩, hW, hsame.mono hc hs⟩
variable {a : Addr} {k : ClassId} {z : Int32} {vs : List Value} {dv : Value} {ty : FieldType}
theorem ldB (X : Stand p l e R s m args below meth c T locs cells slots) (hx : p.tables.exec = Jvm.exec) (hZ : Z.Warmed39 s.vm) (eT : T.heap = h) (V : Arv Z h a k .byte z vs dv) {j : Int32} {v : Value} (hj : ¬ j < 0 ∧ j < z) (hv : vs.getD j.toNatClampNeg dv = v) (hg : g.method = m) (hs : g.stack = .int j :: .ref a :: rest) (hd : decode c.code g.pc = .ok (.baload, 1)) (target : State)
    (hr : Steps p.tables e below (T.setTop { g with pc := g.pc + 1, stack := v :: rest }) target) : Steps p.tables e below (T.setTop g) target := by
  obtain ⟨c', A, -, S, M, H, -⟩ := V
  exact X.baloadBytes hx (by rw [eT]; exact A.1) (State.isArrayOf_alike hZ.alike A.2.1) A.2.2 (inb_of S hj) (H.at (inb_of S hj) hv) hg hs hd target hr
theorem ldI (X : Stand p l e R s m args below meth c T locs cells slots) (hx : p.tables.exec = Jvm.exec) (hZ : Z.Warmed39 s.vm) (eT : T.heap = h) (V : Arv Z h a k .int z vs dv) {j : Int32} {v : Value} (hj : ¬ j < 0 ∧ j < z) (hv : vs.getD j.toNatClampNeg dv = v) (hg : g.method = m) (hs : g.stack = .int j :: .ref a :: rest) (hd : decode c.code g.pc = .ok (.iaload, 1)) (target : State)
    (hr : Steps p.tables e below (T.setTop { g with pc := g.pc + 1, stack := v :: rest }) target) : Steps p.tables e below (T.setTop g) target := by
  obtain ⟨c', A, -, S, M, H, -⟩ := V
  exact X.iaload hx (by rw [eT]; exact A.1) (State.isArrayOf_alike hZ.alike A.2.1) A.2.2 (inb_of S hj) (H.at (inb_of S hj) hv) hg hs hd target hr
theorem ldJ (X : Stand p l e R s m args below meth c T locs cells slots) (hx : p.tables.exec = Jvm.exec) (hZ : Z.Warmed39 s.vm) (eT : T.heap = h) (V : Arv Z h a k .long z vs dv) {j : Int32} {v : Value} (hj : ¬ j < 0 ∧ j < z) (hv : vs.getD j.toNatClampNeg dv = v) (hg : g.method = m) (hs : g.stack = .int j :: .ref a :: rest) (hd : decode c.code g.pc = .ok (.laload, 1)) (target : State)
    (hr : Steps p.tables e below (T.setTop { g with pc := g.pc + 1, stack := v :: rest }) target) : Steps p.tables e below (T.setTop g) target := by
  obtain ⟨c', A, -, S, M, H, -⟩ := V
  exact X.laload hx (by rw [eT]; exact A.1) (State.isArrayOf_alike hZ.alike A.2.1) A.2.2 (inb_of S hj) (H.at (inb_of S hj) hv) hg hs hd target hr
theorem lenA (X : Stand p l e R s m args below meth c T locs cells slots) (hx : p.tables.exec = Jvm.exec) (hZ : Z.Warmed39 s.vm) (eT : T.heap = h) (V : Arv Z h a k ty z vs dv) (hg : g.method = m) (hs : g.stack = .ref a :: rest) (hd : decode c.code g.pc = .ok (.arraylength, 1)) (target : State)
    (hr : Steps p.tables e below (T.setTop { g with pc := g.pc + 1, stack := .int z :: rest }) target) : Steps p.tables e below (T.setTop g) target := by
  obtain ⟨c', A, -, S, M, H, -⟩ := V
  exact X.arraylength hx (by rw [eT]; exact A.1) (State.isArrayOf_alike hZ.alike A.2.1) hg hs hd target (by rw [len_of S M]; exact hr)
theorem sdB (X : Stand p l e R s m args below meth c T locs cells slots) (hx : p.tables.exec = Jvm.exec) (hZ : Z.Warmed39 s.vm) (eT : T.heap = h) (V : Arv Z h a k .byte z vs dv) {j x : Int32} (hj : ¬ j < 0 ∧ j < z) (i : Nat) (hi : j.toNatClampNeg = i) (hl : i < vs.length) (hg : g.method = m) (hs : g.stack = .int x :: .int j :: .ref a :: rest) (hd : decode c.code g.pc = .ok (.bastore, 1)) :
    ∃ T' h', Stand p l e R s m args below meth c T' (locs ++ [⟨a, j.toNatClampNeg⟩]) cells slots ∧ T'.heap = h' ∧ Wr h h' a j.toNatClampNeg (.int (nar .byte x)) ∧ Arv Z h' a k .byte z (vs.set i (.int (nar .byte x))) dv ∧ ∀ target, Steps p.tables e below (T'.setTop { g with pc := g.pc + 1, stack := rest }) target → Steps p.tables e below (T.setTop g) target := by
  obtain ⟨c', A, q1, S, M, H, F⟩ := V
  obtain ⟨T', h', X', e', W, st⟩ := stB X hx hZ eT A (inb_of S hj) hg hs hd
  exact ⟨T', h', X', e', W, Arv.set A q1 S M H F (fits_nar_byte x) W i hi hl, st⟩
theorem sdI (X : Stand p l e R s m args below meth c T locs cells slots) (hx : p.tables.exec = Jvm.exec) (hZ : Z.Warmed39 s.vm) (eT : T.heap = h) (V : Arv Z h a k .int z vs dv) {j x : Int32} (hj : ¬ j < 0 ∧ j < z) (i : Nat) (hi : j.toNatClampNeg = i) (hl : i < vs.length) (hg : g.method = m) (hs : g.stack = .int x :: .int j :: .ref a :: rest) (hd : decode c.code g.pc = .ok (.iastore, 1)) :
    ∃ T' h', Stand p l e R s m args below meth c T' (locs ++ [⟨a, j.toNatClampNeg⟩]) cells slots ∧ T'.heap = h' ∧ Wr h h' a j.toNatClampNeg (.int x) ∧ Arv Z h' a k .int z (vs.set i (.int x)) dv ∧ ∀ target, Steps p.tables e below (T'.setTop { g with pc := g.pc + 1, stack := rest }) target → Steps p.tables e below (T.setTop g) target := by
  obtain ⟨c', A, q1, S, M, H, F⟩ := V
  obtain ⟨T', h', X', e', W, st⟩ := stI X hx hZ eT A (inb_of S hj) hg hs hd
  exact ⟨T', h', X', e', W, Arv.set A q1 S M H F rfl W i hi hl, st⟩
theorem sdJ (X : Stand p l e R s m args below meth c T locs cells slots) (hx : p.tables.exec = Jvm.exec) (hZ : Z.Warmed39 s.vm) (eT : T.heap = h) (V : Arv Z h a k .long z vs dv) {j : Int32} {x : Int64} (hj : ¬ j < 0 ∧ j < z) (i : Nat) (hi : j.toNatClampNeg = i) (hl : i < vs.length) (hg : g.method = m) (hs : g.stack = .long x :: .int j :: .ref a :: rest) (hd : decode c.code g.pc = .ok (.lastore, 1)) :
    ∃ T' h', Stand p l e R s m args below meth c T' (locs ++ [⟨a, j.toNatClampNeg⟩]) cells slots ∧ T'.heap = h' ∧ Wr h h' a j.toNatClampNeg (.long x) ∧ Arv Z h' a k .long z (vs.set i (.long x)) dv ∧ ∀ target, Steps p.tables e below (T'.setTop { g with pc := g.pc + 1, stack := rest }) target → Steps p.tables e below (T.setTop g) target := by
  obtain ⟨c', A, q1, S, M, H, F⟩ := V
  obtain ⟨T', h', X', e', W, st⟩ := stJ X hx hZ eT A (inb_of S hj) hg hs hd
  exact ⟨T', h', X', e', W, Arv.set A q1 S M H F rfl W i hi hl, st⟩
theorem naw (X : Stand p l e R s m args below meth c T locs cells slots) (hx : p.tables.exec = Jvm.exec) (hZ : Z.Warmed39 s.vm) {aty : ArrayType} (w : (Cond.arrayClass (newarray.typeOf aty)).before a0 Z = true) (eT : T.heap = h) (hg : g.method = m) (hd : decode c.code g.pc = .ok (.newarray aty, 2)) {n : Int32} (hs : g.stack = .int n :: rest)
    (hn : ¬ n < 0) (i : Nat) {cap : Nat} (hcap : n.toNatClampNeg ≤ cap) (hb : cap * 8 ≤ 536870912) (hc : cells + 1 ≤ R.cells) (hl : slots + cap ≤ R.slots) :
    ∃ T' h' cA, Stand p l e R s m args below meth c T' locs (cells + 1) (slots + cap) ∧ T'.heap = h' ∧ Ext h h' ∧ Arv Z h' h.size cA (newarray.typeOf aty) n (List.replicate i (defaultValue (newarray.typeOf aty))) (defaultValue (newarray.typeOf aty)) ∧
      ∀ target, Steps p.tables e below (T'.setTop { g with pc := g.pc + 2, stack := .ref h.size :: rest }) target → Steps p.tables e below (T.setTop g) target := by
  obtain ⟨T', h', cA, X', e', E, A, st⟩ := newP X hx hZ w eT hg hd hs hn hcap hb hc hl
  exact ⟨T', h', cA, X', e', E, (Arv.new A hn).pad (fun q => (pad_rep [] _ i q)), st⟩
end Own
end Jvm.RoadKit
namespace Jvm.Pilot.@@N@@
open Jvm Jvm.ClassFile Sem Op Lib Jvm.Free Jvm.Stand Jvm.LawKit Jvm.RoadKit Bundle Jvm.Pilot.@@N@@.Jvm.D
def own_byte (w : Int64) (i : Int32) : Int32 := ((((w.toUInt64 >>> (((8 : Int32) * i) &&& 0x3f).toInt64.toUInt64).toInt64) &&& (255 : Int64)).toInt32)
def own_bit (i : Int32) : Int64 := ((128 : Int64) <<< (((8 : Int32) * i) &&& 0x3f).toInt64)
def own_mark (w : Int64) (i : Int32) : Int64 := if own_byte w i < (48 : Int32) then own_bit i else if (57 : Int32) < own_byte w i then own_bit i else 0
def own_ndm (w : Int64) : Int64 := (((((w &&& (9187201950435737471 : Int64)) + (5787213827046133840 : Int64)) ^^^ (-1 : Int64)) ||| ((w &&& (9187201950435737471 : Int64)) + (5063812098665367110 : Int64))) ||| w) &&& (-9187201950435737472 : Int64)
def own_cat : List Nat → Nat
  | [] => 0
  | b :: r => b + 256 * own_cat r
def own_lt (bs : List Nat) : Prop := ∀ b ∈ bs, b < 256
theorem own_and (a b x y : Nat) (ha : a < 256) (hb : b < 256) : (a + 256 * x) &&& (b + 256 * y) = (a &&& b) + 256 * (x &&& y) := by
  have h1 : ((a + 256 * x) &&& (b + 256 * y)) / 2 ^ 8 = ((a + 256 * x) / 2 ^ 8) &&& ((b + 256 * y) / 2 ^ 8) := Nat.and_div_two_pow
  have h2 : ((a + 256 * x) &&& (b + 256 * y)) % 2 ^ 8 = ((a + 256 * x) % 2 ^ 8) &&& ((b + 256 * y) % 2 ^ 8) := Nat.and_mod_two_pow
  have e1 : (a + 256 * x) / 2 ^ 8 = x := by omega
  have e2 : (b + 256 * y) / 2 ^ 8 = y := by omega
  have e3 : (a + 256 * x) % 2 ^ 8 = a := by omega
  have e4 : (b + 256 * y) % 2 ^ 8 = b := by omega
  rw [e1, e2] at h1
  rw [e3, e4] at h2
  omega
theorem own_or (a b x y : Nat) (ha : a < 256) (hb : b < 256) : (a + 256 * x) ||| (b + 256 * y) = (a ||| b) + 256 * (x ||| y) := by
  have h1 : ((a + 256 * x) ||| (b + 256 * y)) / 2 ^ 8 = ((a + 256 * x) / 2 ^ 8) ||| ((b + 256 * y) / 2 ^ 8) := Nat.or_div_two_pow
  have h2 : ((a + 256 * x) ||| (b + 256 * y)) % 2 ^ 8 = ((a + 256 * x) % 2 ^ 8) ||| ((b + 256 * y) % 2 ^ 8) := Nat.or_mod_two_pow
  have e1 : (a + 256 * x) / 2 ^ 8 = x := by omega
  have e2 : (b + 256 * y) / 2 ^ 8 = y := by omega
  have e3 : (a + 256 * x) % 2 ^ 8 = a := by omega
  have e4 : (b + 256 * y) % 2 ^ 8 = b := by omega
  rw [e1, e2] at h1
  rw [e3, e4] at h2
  omega
theorem own_xor (a b x y : Nat) (ha : a < 256) (hb : b < 256) : (a + 256 * x) ^^^ (b + 256 * y) = (a ^^^ b) + 256 * (x ^^^ y) := by
  have h1 : ((a + 256 * x) ^^^ (b + 256 * y)) / 2 ^ 8 = ((a + 256 * x) / 2 ^ 8) ^^^ ((b + 256 * y) / 2 ^ 8) := Nat.xor_div_two_pow
  have h2 : ((a + 256 * x) ^^^ (b + 256 * y)) % 2 ^ 8 = ((a + 256 * x) % 2 ^ 8) ^^^ ((b + 256 * y) % 2 ^ 8) := Nat.xor_mod_two_pow
  have e1 : (a + 256 * x) / 2 ^ 8 = x := by omega
  have e2 : (b + 256 * y) / 2 ^ 8 = y := by omega
  have e3 : (a + 256 * x) % 2 ^ 8 = a := by omega
  have e4 : (b + 256 * y) % 2 ^ 8 = b := by omega
  rw [e1, e2] at h1
  rw [e3, e4] at h2
  omega
theorem own_mand {f g : Nat → Nat} : ∀ (bs : List Nat), (∀ b ∈ bs, f b < 256 ∧ g b < 256) → own_cat (bs.map f) &&& own_cat (bs.map g) = own_cat (bs.map fun b => f b &&& g b)
  | [], _ => by simp [own_cat]
  | b :: r, h => by
    have ih := own_mand r fun q hq => h q (List.mem_cons_of_mem _ hq)
    have hb := h b List.mem_cons_self
    simp only [List.map_cons, own_cat]
    rw [own_and _ _ _ _ hb.1 hb.2, ih]
theorem own_mor {f g : Nat → Nat} : ∀ (bs : List Nat), (∀ b ∈ bs, f b < 256 ∧ g b < 256) → own_cat (bs.map f) ||| own_cat (bs.map g) = own_cat (bs.map fun b => f b ||| g b)
  | [], _ => by simp [own_cat]
  | b :: r, h => by
    have ih := own_mor r fun q hq => h q (List.mem_cons_of_mem _ hq)
    have hb := h b List.mem_cons_self
    simp only [List.map_cons, own_cat]
    rw [own_or _ _ _ _ hb.1 hb.2, ih]
theorem own_mxor {f g : Nat → Nat} : ∀ (bs : List Nat), (∀ b ∈ bs, f b < 256 ∧ g b < 256) → own_cat (bs.map f) ^^^ own_cat (bs.map g) = own_cat (bs.map fun b => f b ^^^ g b)
  | [], _ => by simp [own_cat]
  | b :: r, h => by
    have ih := own_mxor r fun q hq => h q (List.mem_cons_of_mem _ hq)
    have hb := h b List.mem_cons_self
    simp only [List.map_cons, own_cat]
    rw [own_xor _ _ _ _ hb.1 hb.2, ih]
theorem own_madd {f g : Nat → Nat} : ∀ (bs : List Nat), own_cat (bs.map f) + own_cat (bs.map g) = own_cat (bs.map fun b => f b + g b)
  | [] => by simp [own_cat]
  | b :: r => by
    have ih := own_madd (f := f) (g := g) r
    simp only [List.map_cons, own_cat]
    omega
theorem own_mlt {f : Nat → Nat} : ∀ (bs : List Nat), (∀ b ∈ bs, f b < 256) → own_cat (bs.map f) < 256 ^ bs.length
  | [], _ => by simp [own_cat]
  | b :: r, h => by
    have ih := own_mlt r fun q hq => h q (List.mem_cons_of_mem _ hq)
    have hb := h b List.mem_cons_self
    simp only [List.map_cons, own_cat, List.length_cons, Nat.pow_succ]
    omega
/-- what each byte of the word becomes -/
def own_f (b : Nat) : Nat := ((((b &&& 127) + 80) ^^^ 255) ||| ((b &&& 127) + 70) ||| b) &&& 128
def own_g (b : Nat) : Nat := if b < 48 then 128 else if 57 < b then 128 else 0
theorem own_fg : ∀ b : Fin 256, own_f b.val = own_g b.val ∧ (b.val &&& 127) < 128 ∧ (((b.val &&& 127) + 80) ^^^ 255) < 256 ∧ ((((b.val &&& 127) + 80) ^^^ 255) ||| ((b.val &&& 127) + 70)) < 256 ∧ ((((b.val &&& 127) + 80) ^^^ 255) ||| ((b.val &&& 127) + 70) ||| b.val) < 256 := by decide +kernel
theorem own_nat_law (bs : List Nat) (hl : bs.length = 8) (h : own_lt bs) :
    (((((own_cat bs &&& own_cat (bs.map fun _ => 127)) + own_cat (bs.map fun _ => 80)) ^^^ own_cat (bs.map fun _ => 255)) ||| ((own_cat bs &&& own_cat (bs.map fun _ => 127)) + own_cat (bs.map fun _ => 70))) ||| own_cat bs) &&& own_cat (bs.map fun _ => 128) = own_cat (bs.map own_g) := by
  have F := fun b hb => own_fg ⟨b, h b hb⟩
  have e0 : own_cat bs = own_cat (bs.map fun b => b) := by rw [List.map_id']
  rw [e0, own_mand bs fun b hb => ⟨h b hb, by decide⟩, own_madd, own_madd, own_mxor bs fun b hb => ⟨by have := (F b hb).2.1; simp only at this; omega, by decide⟩]
  rw [own_mor bs fun b hb => ⟨(F b hb).2.2.1, by have := (F b hb).2.1; simp only at this; omega⟩, own_mor bs fun b hb => ⟨(F b hb).2.2.2.1, h b hb⟩, own_mand bs fun b hb => ⟨(F b hb).2.2.2.2, by decide⟩]
  congr 1
  exact List.map_congr_left fun b hb => (F b hb).1
def own_n (x : Int64) : Nat := x.toBitVec.toNat
theorem own_n_and (x y : Int64) : own_n (x &&& y) = own_n x &&& own_n y := by unfold own_n; rw [Int64.toBitVec_and, BitVec.toNat_and]
theorem own_n_or (x y : Int64) : own_n (x ||| y) = own_n x ||| own_n y := by unfold own_n; rw [Int64.toBitVec_or, BitVec.toNat_or]
theorem own_n_xor (x y : Int64) : own_n (x ^^^ y) = own_n x ^^^ own_n y := by unfold own_n; rw [Int64.toBitVec_xor, BitVec.toNat_xor]
theorem own_n_add (x y : Int64) (h : own_n x + own_n y < 2 ^ 64) : own_n (x + y) = own_n x + own_n y := by
  unfold own_n at *; rw [Int64.toBitVec_add, BitVec.toNat_add, Nat.mod_eq_of_lt h]
theorem own_n_inj {x y : Int64} (h : own_n x = own_n y) : x = y := Int64.toBitVec_inj.mp (BitVec.eq_of_toNat_eq h)
theorem own_n_lt (x : Int64) : own_n x < 2 ^ 64 := x.toBitVec.isLt
def own_bs (n : Nat) : List Nat := [n % 256, n / 2 ^ 8 % 256, n / 2 ^ 16 % 256, n / 2 ^ 24 % 256, n / 2 ^ 32 % 256, n / 2 ^ 40 % 256, n / 2 ^ 48 % 256, n / 2 ^ 56 % 256]
theorem own_cat_bs (n : Nat) (h : n < 2 ^ 64) : own_cat (own_bs n) = n := by simp only [own_cat, own_bs]; omega
theorem own_bs_lt (n : Nat) : own_lt (own_bs n) := by
  intro b hb
  simp only [own_bs, List.mem_cons, List.not_mem_nil, or_false] at hb
  rcases hb with rfl | rfl | rfl | rfl | rfl | rfl | rfl | rfl <;> exact Nat.mod_lt _ (by decide)
theorem own_ndm_n (w : Int64) : own_n (own_ndm w) = own_cat ((own_bs (own_n w)).map own_g) := by
  have hl := own_nat_law (own_bs (own_n w)) rfl (own_bs_lt _)
  rw [own_cat_bs _ (own_n_lt w)] at hl
  have c1 : own_cat ((own_bs (own_n w)).map fun _ => 127) = own_n (9187201950435737471 : Int64) := by
    have : own_n (9187201950435737471 : Int64) = 9187201950435737471 := by decide +kernel
    rw [this]; simp only [own_bs, List.map_cons, List.map_nil, own_cat]
  have c2 : own_cat ((own_bs (own_n w)).map fun _ => 80) = own_n (5787213827046133840 : Int64) := by
    have : own_n (5787213827046133840 : Int64) = 5787213827046133840 := by decide +kernel
    rw [this]; simp only [own_bs, List.map_cons, List.map_nil, own_cat]
  have c3 : own_cat ((own_bs (own_n w)).map fun _ => 255) = own_n (-1 : Int64) := by
    have : own_n (-1 : Int64) = 18446744073709551615 := by decide +kernel
    rw [this]; simp only [own_bs, List.map_cons, List.map_nil, own_cat]
  have c4 : own_cat ((own_bs (own_n w)).map fun _ => 70) = own_n (5063812098665367110 : Int64) := by
    have : own_n (5063812098665367110 : Int64) = 5063812098665367110 := by decide +kernel
    rw [this]; simp only [own_bs, List.map_cons, List.map_nil, own_cat]
  have c5 : own_cat ((own_bs (own_n w)).map fun _ => 128) = own_n (-9187201950435737472 : Int64) := by
    have : own_n (-9187201950435737472 : Int64) = 9259542123273814144 := by decide +kernel
    rw [this]; simp only [own_bs, List.map_cons, List.map_nil, own_cat]
  rw [c1, c2, c3, c4, c5] at hl
  rw [← hl]
  have n2 : own_n (5787213827046133840 : Int64) = 5787213827046133840 := by decide +kernel
  have n4 : own_n (5063812098665367110 : Int64) = 5063812098665367110 := by decide +kernel
  have n1 : own_n (9187201950435737471 : Int64) = 9187201950435737471 := by decide +kernel
  have ht : own_n w &&& own_n (9187201950435737471 : Int64) ≤ own_n (9187201950435737471 : Int64) := Nat.and_le_right
  unfold own_ndm
  rw [own_n_and, own_n_or, own_n_or, own_n_xor, own_n_add _ _ (by rw [own_n_and]; omega), own_n_add _ _ (by rw [own_n_and]; omega), own_n_and]
theorem own_ushr (w : Int64) (q : Int32) (k : Nat) (hk : q.toBitVec.toNat % 64 = k) (h0 : 0 < k) : ((((w.toUInt64 >>> (q &&& 0x3f).toInt64.toUInt64).toInt64) &&& (255 : Int64)).toInt32).toInt = ((own_n w / 2 ^ k % 256 : Nat) : Int) := by
  have h1 := c_lushr w q k hk h0
  have h2 := c_maskL ((w.toUInt64 >>> (q &&& 0x3f).toInt64.toUInt64).toInt64) 255 8 (by decide) (by decide)
  have h3 := c_l2i (((w.toUInt64 >>> (q &&& 0x3f).toInt64.toUInt64).toInt64) &&& (255 : Int64))
  have h4 := rng32 ((((w.toUInt64 >>> (q &&& 0x3f).toInt64.toUInt64).toInt64) &&& (255 : Int64)).toInt32)
  have h5 : (own_n w : Int) = w.toInt % 18446744073709551616 := by
    have e : w.toInt = w.toBitVec.toInt := rfl
    have hlt := own_n_lt w
    unfold own_n at *
    rw [e, BitVec.toInt_eq_toNat_cond]
    split <;> omega
  rw [h1, ← h5] at h2
  have h6 : ((own_n w : Int) / (2 ^ k : Nat)) = ((own_n w / 2 ^ k : Nat) : Int) := by rw [Int.natCast_ediv]
  rw [h6] at h2
  have h7 : (((own_n w / 2 ^ k : Nat) : Int) % (2 ^ 8 : Nat)) = ((own_n w / 2 ^ k % 256 : Nat) : Int) := by omega
  rw [h7] at h2
  have h8 : own_n w / 2 ^ k % 256 < 256 := Nat.mod_lt _ (by decide)
  omega
theorem own_byte0 (w : Int64) : (own_byte w (0 : Int32)).toInt = ((own_n w % 256 : Nat) : Int) := by
  have e : own_byte w (0 : Int32) = (w &&& (255 : Int64)).toInt32 := by
    unfold own_byte
    have : (((8 : Int32) * 0) &&& 0x3f).toInt64.toUInt64 = 0 := by decide
    rw [this]
    simp
  rw [e]
  have h2 := c_maskL w 255 8 (by decide) (by decide)
  have h3 := c_l2i (w &&& (255 : Int64))
  have h4 := rng32 (w &&& (255 : Int64)).toInt32
  have h5 : (own_n w : Int) = w.toInt % 18446744073709551616 := by
    have e : w.toInt = w.toBitVec.toInt := rfl
    have hlt := own_n_lt w
    unfold own_n at *
    rw [e, BitVec.toInt_eq_toNat_cond]
    split <;> omega
  omega
theorem own_mark_n (w : Int64) (i : Int32) (b B : Nat) (hb : (own_byte w i).toInt = (b : Int)) (hB : own_n (own_bit i) = 128 * B) : own_n (own_mark w i) = own_g b * B := by
  have k48 : (48 : Int32).toInt = 48 := rfl
  have k57 : (57 : Int32).toInt = 57 := rfl
  unfold own_mark own_g
  simp only [Int32.lt_iff_toInt_lt, hb, k48, k57]
  repeat' split
  all_goals first | exact hB | (exfalso; omega) | (rw [Nat.zero_mul]; decide +kernel)
theorem own_g_le (b : Nat) : own_g b < 256 := by unfold own_g; (repeat' split) <;> omega
theorem own_or_step (x y : Nat) (k : Nat) (hx : x < 2 ^ k) : x ||| (y * 2 ^ k) = x + y * 2 ^ k := by
  rw [Nat.or_comm, Nat.mul_comm, ← Nat.two_pow_add_eq_or_of_lt hx]; omega
theorem own_main (w : Int64) : own_ndm w = (((((((own_mark w (0 : Int32) ||| own_mark w (1 : Int32)) ||| own_mark w (2 : Int32)) ||| own_mark w (3 : Int32)) ||| own_mark w (4 : Int32)) ||| own_mark w (5 : Int32)) ||| own_mark w (6 : Int32)) ||| own_mark w (7 : Int32)) := by
  apply own_n_inj
  rw [own_ndm_n]
  simp only [own_n_or]
  rw [own_mark_n w 0 _ 1 (own_byte0 w) (by decide +kernel), own_mark_n w 1 _ (2 ^ 8) (own_ushr w _ 8 (by decide) (by decide)) (by decide +kernel), own_mark_n w 2 _ (2 ^ 16) (own_ushr w _ 16 (by decide) (by decide)) (by decide +kernel), own_mark_n w 3 _ (2 ^ 24) (own_ushr w _ 24 (by decide) (by decide)) (by decide +kernel), own_mark_n w 4 _ (2 ^ 32) (own_ushr w _ 32 (by decide) (by decide)) (by decide +kernel), own_mark_n w 5 _ (2 ^ 40) (own_ushr w _ 40 (by decide) (by decide)) (by decide +kernel), own_mark_n w 6 _ (2 ^ 48) (own_ushr w _ 48 (by decide) (by decide)) (by decide +kernel), own_mark_n w 7 _ (2 ^ 56) (own_ushr w _ 56 (by decide) (by decide)) (by decide +kernel)]
  simp only [own_bs, List.map_cons, List.map_nil, own_cat]
  have g0 := own_g_le (own_n w % 256)
  have g1 := own_g_le (own_n w / 2 ^ 8 % 256)
  have g2 := own_g_le (own_n w / 2 ^ 16 % 256)
  have g3 := own_g_le (own_n w / 2 ^ 24 % 256)
  have g4 := own_g_le (own_n w / 2 ^ 32 % 256)
  have g5 := own_g_le (own_n w / 2 ^ 40 % 256)
  have g6 := own_g_le (own_n w / 2 ^ 48 % 256)
  have g7 := own_g_le (own_n w / 2 ^ 56 % 256)
  generalize own_g (own_n w % 256) = x0 at *
  generalize own_g (own_n w / 2 ^ 8 % 256) = x1 at *
  generalize own_g (own_n w / 2 ^ 16 % 256) = x2 at *
  generalize own_g (own_n w / 2 ^ 24 % 256) = x3 at *
  generalize own_g (own_n w / 2 ^ 32 % 256) = x4 at *
  generalize own_g (own_n w / 2 ^ 40 % 256) = x5 at *
  generalize own_g (own_n w / 2 ^ 48 % 256) = x6 at *
  generalize own_g (own_n w / 2 ^ 56 % 256) = x7 at *
  rw [own_or_step (x0 * 1) x1 8 (by omega), own_or_step _ x2 16 (by omega), own_or_step _ x3 24 (by omega), own_or_step _ x4 32 (by omega), own_or_step _ x5 40 (by omega), own_or_step _ x6 48 (by omega), own_or_step _ x7 56 (by omega)]
  omega
theorem own_pn0 : plainName "com/example/wary_logon/warylogon/fix/WireBytesNonDigitMarksPinLaw" = true := by first | (simp [plainName, overriddenIn]; done) | decide +kernel
theorem own_pd0 : parseMethodDescriptor "(JI)J" = some ⟨[.long, .int], some .long⟩ := by decide +kernel
theorem d1_0 : decode method_2_code 0 = .ok (.lload_n 0, 1) := by decide +kernel
theorem d1_1 : decode method_2_code 1 = .ok (.bipush 8, 2) := by decide +kernel
theorem d1_3 : decode method_2_code 3 = .ok (.iload_n 2, 1) := by decide +kernel
theorem d1_4 : decode method_2_code 4 = .ok (.imul, 1) := by decide +kernel
theorem d1_5 : decode method_2_code 5 = .ok (.lushr, 1) := by decide +kernel
theorem d1_6 : decode method_2_code 6 = .ok (.ldc2_w 7, 3) := by decide +kernel
theorem d1_9 : decode method_2_code 9 = .ok (.land, 1) := by decide +kernel
theorem d1_10 : decode method_2_code 10 = .ok (.l2i, 1) := by decide +kernel
theorem d1_11 : decode method_2_code 11 = .ok (.istore_n 3, 1) := by decide +kernel
theorem d1_12 : decode method_2_code 12 = .ok (.iload_n 3, 1) := by decide +kernel
theorem d1_13 : decode method_2_code 13 = .ok (.bipush 48, 2) := by decide +kernel
theorem d1_15 : decode method_2_code 15 = .ok (.if_icmp .lt 9, 3) := by decide +kernel
theorem d1_18 : decode method_2_code 18 = .ok (.iload_n 3, 1) := by decide +kernel
theorem d1_19 : decode method_2_code 19 = .ok (.bipush 57, 2) := by decide +kernel
theorem d1_21 : decode method_2_code 21 = .ok (.if_icmp .le 12, 3) := by decide +kernel
theorem d1_24 : decode method_2_code 24 = .ok (.ldc2_w 9, 3) := by decide +kernel
theorem d1_27 : decode method_2_code 27 = .ok (.bipush 8, 2) := by decide +kernel
theorem d1_29 : decode method_2_code 29 = .ok (.iload_n 2, 1) := by decide +kernel
theorem d1_30 : decode method_2_code 30 = .ok (.imul, 1) := by decide +kernel
theorem d1_31 : decode method_2_code 31 = .ok (.lshl, 1) := by decide +kernel
theorem d1_32 : decode method_2_code 32 = .ok (.lreturn, 1) := by decide +kernel
theorem d1_33 : decode method_2_code 33 = .ok (.lconst 0, 1) := by decide +kernel
theorem d1_34 : decode method_2_code 34 = .ok (.lreturn, 1) := by decide +kernel
theorem own_ef1 (m : MethodId) (x0 : Int64) (x1 : Int32) : entryFrame m #[(.long x0), (.int x1)] 4 = mkF m 0 #[.val (.long x0), .second, .val (.int x1), .unset] [] := by first | (simp [entryFrame, mkF, argsToLocals, Value.category, maxLocals]; done) | rfl
def Qrm1 (Z : State) (p1 : Int64) (p2 : Int32)  (h0 : Heap) (n0 : Nat) : Option Value → Heap → List Loc → Prop := fun v h L => v = some (.long (own_mark p1 p2)) ∧ Fr n0 L ∧ h = h0
set_option maxRecDepth 65536 in
set_option maxHeartbeats 40000000 in
theorem rm1 (l : Launch) (Z : State) (a0 : Array Value) (hw : ∀ d ∈ tables_1, d.before a0 Z = true) (ws : List Jvm.Cond) (p1 : Int64) (p2 : Int32)  (h0 : Heap) (n0 : Nat) (Z0 : n0 ≤ h0.size)  :
    MetFree l (⟨"com/example/wary_logon/warylogon/fix/WireBytesNonDigitMarksPinLaw", "mark", "(JI)J"⟩ : MethodName) (head1 (Jvm.Cond.code (⟨"com/example/wary_logon/warylogon/fix/WireBytesNonDigitMarksPinLaw", "mark", "(JI)J"⟩ : MethodName) method_2_code 4 (some .long) :: ws) ({ frames := 0, cells := 0, slots := 0, locals := 0 } : Room)) (fun a U => a = #[(.long p1), (.int p2)] ∧ Z.Warmed39 U.vm ∧ U.heap = h0) (fun _ _ _ _ _ => True) (fun _ U o U' => ∃ v L, o = .returned v ∧ (Qrm1 Z p1 p2  h0 n0) v U'.heap L ∧ FrameEnd U o U' L ({ frames := 0, cells := 0, slots := 0, locals := 0 } : Room).cells ({ frames := 0, cells := 0, slots := 0, locals := 0 } : Room).slots) := by
  refine MetFree.of_bodySF (plainFor_of_name own_pn0) hisR ?_
  intro p e s m args below meth c s₁ Bd hml0 hP hK
  obtain ⟨rfl, hZ, hh⟩ := hP
  have hx := Bd.exec
  have hby := Bd.bytes
  have hlk := Bd.notSynchronized
  have hml : c.maxLocals = 4 := hml0
  have hown : s.vm.findClass "com/example/wary_logon/warylogon/fix/WireBytesNonDigitMarksPinLaw" = some m.cls := findClass_of_methodNamed Bd.named
  have hnm := (name_of_methodNamed Bd.named Bd.method).1
  have X0 : Stand p l e ({ frames := 0, cells := 0, slots := 0, locals := 0 } : Room) s m #[(.long p1), (.int p2)] below meth c s₁ [] 0 0 := Stand.of_body Bd
  have e0 : s₁.heap = h0 := by rw [← hh, Bd.state]; rfl
  have N0 := Fr.nil n0
  refine Rch.entry (G := (EndQ (Qrm1 Z p1 p2  h0 n0) s ({ frames := 0, cells := 0, slots := 0, locals := 0 } : Room).cells ({ frames := 0, cells := 0, slots := 0, locals := 0 } : Room).slots)) (own_ef1 m p1 p2) ?_
  show Rch p e below _ s₁ (mkF m 0 #[.val (.long p1), .second, .val (.int p2), .unset] [])
  refine Rch.go (fun _ q => XS.lloadN X0.here hx rfl (hb hby d1_0) rfl  q) ?_
  show Rch p e below _ s₁ (mkF m 1 #[.val (.long p1), .second, .val (.int p2), .unset] [(.long p1)])
  refine Rch.go (fun _ q => XS.bipush X0.here hx rfl (hb hby d1_1) q) ?_
  show Rch p e below _ s₁ (mkF m 3 #[.val (.long p1), .second, .val (.int p2), .unset] [(.int (8 : Int32)), (.long p1)])
  refine Rch.go (fun _ q => XS.iloadN X0.here hx rfl (hb hby d1_3) rfl  q) ?_
  show Rch p e below _ s₁ (mkF m 4 #[.val (.long p1), .second, .val (.int p2), .unset] [(.int p2), (.int (8 : Int32)), (.long p1)])
  refine Rch.go (fun _ q => XS.imul X0.here hx rfl (hb hby d1_4) rfl q) ?_
  show Rch p e below _ s₁ (mkF m 5 #[.val (.long p1), .second, .val (.int p2), .unset] [(.int ((8 : Int32) * p2)), (.long p1)])
  refine Rch.go (fun _ q => XS.lushr X0.here hx rfl (hb hby d1_5) rfl q) ?_
  show Rch p e below _ s₁ (mkF m 6 #[.val (.long p1), .second, .val (.int p2), .unset] [(.long ((p1.toUInt64 >>> (((8 : Int32) * p2) &&& 0x3f).toInt64.toUInt64).toInt64))])
  refine Rch.go (fun _ q => X0.ldc2J hx (own := "com/example/wary_logon/warylogon/fix/WireBytesNonDigitMarksPinLaw") hown (mvT hZ (hw _ (List.mem_of_getElem? (i := 6) rfl))) rfl (hb hby d1_6) q) ?_
  show Rch p e below _ s₁ (mkF m 9 #[.val (.long p1), .second, .val (.int p2), .unset] [(.long (255 : Int64)), (.long ((p1.toUInt64 >>> (((8 : Int32) * p2) &&& 0x3f).toInt64.toUInt64).toInt64))])
  refine Rch.go (fun _ q => XS.land X0.here hx rfl (hb hby d1_9) rfl q) ?_
  show Rch p e below _ s₁ (mkF m 10 #[.val (.long p1), .second, .val (.int p2), .unset] [(.long (((p1.toUInt64 >>> (((8 : Int32) * p2) &&& 0x3f).toInt64.toUInt64).toInt64) &&& (255 : Int64)))])
  refine Rch.go (fun _ q => XS.l2i X0.here hx rfl (hb hby d1_10) rfl q) ?_
  show Rch p e below _ s₁ (mkF m 11 #[.val (.long p1), .second, .val (.int p2), .unset] [(.int ((((p1.toUInt64 >>> (((8 : Int32) * p2) &&& 0x3f).toInt64.toUInt64).toInt64) &&& (255 : Int64)).toInt32))])
  refine Rch.go (fun _ q => XS.istoreN X0.here hx rfl (hb hby d1_11) rfl (l' := #[.val (.long p1), .second, .val (.int p2), .val (.int ((((p1.toUInt64 >>> (((8 : Int32) * p2) &&& 0x3f).toInt64.toUInt64).toInt64) &&& (255 : Int64)).toInt32))]) rfl q) ?_
  show Rch p e below _ s₁ (mkF m 12 #[.val (.long p1), .second, .val (.int p2), .val (.int ((((p1.toUInt64 >>> (((8 : Int32) * p2) &&& 0x3f).toInt64.toUInt64).toInt64) &&& (255 : Int64)).toInt32))] [])
  show Rch p e below _ s₁ (mkF m 12 #[.val (.long p1), .second, .val (.int p2), .val (.int (own_byte p1 p2))] [])
  refine Rch.go (fun _ q => XS.iloadN X0.here hx rfl (hb hby d1_12) rfl  q) ?_
  show Rch p e below _ s₁ (mkF m 13 #[.val (.long p1), .second, .val (.int p2), .val (.int (own_byte p1 p2))] [(.int (own_byte p1 p2))])
  refine Rch.go (fun _ q => XS.bipush X0.here hx rfl (hb hby d1_13) q) ?_
  show Rch p e below _ s₁ (mkF m 15 #[.val (.long p1), .second, .val (.int p2), .val (.int (own_byte p1 p2))] [(.int (48 : Int32)), (.int (own_byte p1 p2))])
  by_cases hc15 : (own_byte p1 p2) < (48 : Int32)
  · skip
    refine Rch.go (fun _ q => XS.icmpYes X0.here hx rfl (pc0 := 15) (pc' := 24) rfl (hb hby d1_15) rfl (tlt hc15).1 (by decide) (by decide) q) ?_
    show Rch p e below _ s₁ (mkF m 24 #[.val (.long p1), .second, .val (.int p2), .val (.int (own_byte p1 p2))] [])
    refine Rch.go (fun _ q => X0.ldc2J hx (own := "com/example/wary_logon/warylogon/fix/WireBytesNonDigitMarksPinLaw") hown (mvT hZ (hw _ (List.mem_of_getElem? (i := 7) rfl))) rfl (hb hby d1_24) q) ?_
    show Rch p e below _ s₁ (mkF m 27 #[.val (.long p1), .second, .val (.int p2), .val (.int (own_byte p1 p2))] [(.long (128 : Int64))])
    refine Rch.go (fun _ q => XS.bipush X0.here hx rfl (hb hby d1_27) q) ?_
    show Rch p e below _ s₁ (mkF m 29 #[.val (.long p1), .second, .val (.int p2), .val (.int (own_byte p1 p2))] [(.int (8 : Int32)), (.long (128 : Int64))])
    refine Rch.go (fun _ q => XS.iloadN X0.here hx rfl (hb hby d1_29) rfl  q) ?_
    show Rch p e below _ s₁ (mkF m 30 #[.val (.long p1), .second, .val (.int p2), .val (.int (own_byte p1 p2))] [(.int p2), (.int (8 : Int32)), (.long (128 : Int64))])
    refine Rch.go (fun _ q => XS.imul X0.here hx rfl (hb hby d1_30) rfl q) ?_
    show Rch p e below _ s₁ (mkF m 31 #[.val (.long p1), .second, .val (.int p2), .val (.int (own_byte p1 p2))] [(.int ((8 : Int32) * p2)), (.long (128 : Int64))])
    refine Rch.go (fun _ q => XS.lshl X0.here hx rfl (hb hby d1_31) rfl q) ?_
    show Rch p e below _ s₁ (mkF m 32 #[.val (.long p1), .second, .val (.int p2), .val (.int (own_byte p1 p2))] [(.long ((128 : Int64) <<< (((8 : Int32) * p2) &&& 0x3f).toInt64))])
    show Rch p e below _ s₁ (mkF m 32 #[.val (.long p1), .second, .val (.int p2), .val (.int (own_byte p1 p2))] [(.long (own_bit p2))])
    refine Rch.retJ X0 hx hlk Bd.returns (hb hby d1_32) (by decide) (by decide) ?_
    unfold Qrm1
    exact ⟨by simp only [own_mark, hc15, if_true, if_false], N0, e0⟩
  · skip
    refine Rch.go (fun _ q => XS.icmpNo X0.here hx rfl (hb hby d1_15) rfl (flt hc15).1 q) ?_
    show Rch p e below _ s₁ (mkF m 18 #[.val (.long p1), .second, .val (.int p2), .val (.int (own_byte p1 p2))] [])
    refine Rch.go (fun _ q => XS.iloadN X0.here hx rfl (hb hby d1_18) rfl  q) ?_
    show Rch p e below _ s₁ (mkF m 19 #[.val (.long p1), .second, .val (.int p2), .val (.int (own_byte p1 p2))] [(.int (own_byte p1 p2))])
    refine Rch.go (fun _ q => XS.bipush X0.here hx rfl (hb hby d1_19) q) ?_
    show Rch p e below _ s₁ (mkF m 21 #[.val (.long p1), .second, .val (.int p2), .val (.int (own_byte p1 p2))] [(.int (57 : Int32)), (.int (own_byte p1 p2))])
    by_cases hc21 : (57 : Int32) < (own_byte p1 p2)
    · skip
      refine Rch.go (fun _ q => XS.icmpNo X0.here hx rfl (hb hby d1_21) rfl (tlt hc21).2.2.2 q) ?_
      show Rch p e below _ s₁ (mkF m 24 #[.val (.long p1), .second, .val (.int p2), .val (.int (own_byte p1 p2))] [])
      refine Rch.go (fun _ q => X0.ldc2J hx (own := "com/example/wary_logon/warylogon/fix/WireBytesNonDigitMarksPinLaw") hown (mvT hZ (hw _ (List.mem_of_getElem? (i := 7) rfl))) rfl (hb hby d1_24) q) ?_
      show Rch p e below _ s₁ (mkF m 27 #[.val (.long p1), .second, .val (.int p2), .val (.int (own_byte p1 p2))] [(.long (128 : Int64))])
      refine Rch.go (fun _ q => XS.bipush X0.here hx rfl (hb hby d1_27) q) ?_
      show Rch p e below _ s₁ (mkF m 29 #[.val (.long p1), .second, .val (.int p2), .val (.int (own_byte p1 p2))] [(.int (8 : Int32)), (.long (128 : Int64))])
      refine Rch.go (fun _ q => XS.iloadN X0.here hx rfl (hb hby d1_29) rfl  q) ?_
      show Rch p e below _ s₁ (mkF m 30 #[.val (.long p1), .second, .val (.int p2), .val (.int (own_byte p1 p2))] [(.int p2), (.int (8 : Int32)), (.long (128 : Int64))])
      refine Rch.go (fun _ q => XS.imul X0.here hx rfl (hb hby d1_30) rfl q) ?_
      show Rch p e below _ s₁ (mkF m 31 #[.val (.long p1), .second, .val (.int p2), .val (.int (own_byte p1 p2))] [(.int ((8 : Int32) * p2)), (.long (128 : Int64))])
      refine Rch.go (fun _ q => XS.lshl X0.here hx rfl (hb hby d1_31) rfl q) ?_
      show Rch p e below _ s₁ (mkF m 32 #[.val (.long p1), .second, .val (.int p2), .val (.int (own_byte p1 p2))] [(.long ((128 : Int64) <<< (((8 : Int32) * p2) &&& 0x3f).toInt64))])
      show Rch p e below _ s₁ (mkF m 32 #[.val (.long p1), .second, .val (.int p2), .val (.int (own_byte p1 p2))] [(.long (own_bit p2))])
      refine Rch.retJ X0 hx hlk Bd.returns (hb hby d1_32) (by decide) (by decide) ?_
      unfold Qrm1
      exact ⟨by simp only [own_mark, hc15, hc21, if_true, if_false], N0, e0⟩
    · skip
      refine Rch.go (fun _ q => XS.icmpYes X0.here hx rfl (pc0 := 21) (pc' := 33) rfl (hb hby d1_21) rfl (flt hc21).2.2.2 (by decide) (by decide) q) ?_
      show Rch p e below _ s₁ (mkF m 33 #[.val (.long p1), .second, .val (.int p2), .val (.int (own_byte p1 p2))] [])
      refine Rch.go (fun _ q => XS.lconst X0.here hx rfl (hb hby d1_33) q) ?_
      show Rch p e below _ s₁ (mkF m 34 #[.val (.long p1), .second, .val (.int p2), .val (.int (own_byte p1 p2))] [(.long (0 : Int64))])
      refine Rch.retJ X0 hx hlk Bd.returns (hb hby d1_34) (by decide) (by decide) ?_
      unfold Qrm1
      exact ⟨by simp only [own_mark, hc15, hc21, if_true, if_false], N0, e0⟩
theorem own_pn1 : plainName "com/example/wary_logon/warylogon/fix/WireBytes" = true := by first | (simp [plainName, overriddenIn]; done) | decide +kernel
theorem own_pd1 : parseMethodDescriptor "(J)J" = some ⟨[.long], some .long⟩ := by decide +kernel
theorem d2_0 : decode prog_31_method_6_code 0 = .ok (.lload_n 0, 1) := by decide +kernel
theorem d2_1 : decode prog_31_method_6_code 1 = .ok (.ldc2_w 35, 3) := by decide +kernel
theorem d2_4 : decode prog_31_method_6_code 4 = .ok (.land, 1) := by decide +kernel
theorem d2_5 : decode prog_31_method_6_code 5 = .ok (.lstore_n 2, 1) := by decide +kernel
theorem d2_6 : decode prog_31_method_6_code 6 = .ok (.lload_n 2, 1) := by decide +kernel
theorem d2_7 : decode prog_31_method_6_code 7 = .ok (.ldc2_w 37, 3) := by decide +kernel
theorem d2_10 : decode prog_31_method_6_code 10 = .ok (.ladd, 1) := by decide +kernel
theorem d2_11 : decode prog_31_method_6_code 11 = .ok (.ldc2_w 23, 3) := by decide +kernel
theorem d2_14 : decode prog_31_method_6_code 14 = .ok (.lxor, 1) := by decide +kernel
theorem d2_15 : decode prog_31_method_6_code 15 = .ok (.lload_n 2, 1) := by decide +kernel
theorem d2_16 : decode prog_31_method_6_code 16 = .ok (.ldc2_w 39, 3) := by decide +kernel
theorem d2_19 : decode prog_31_method_6_code 19 = .ok (.ladd, 1) := by decide +kernel
theorem d2_20 : decode prog_31_method_6_code 20 = .ok (.lor, 1) := by decide +kernel
theorem d2_21 : decode prog_31_method_6_code 21 = .ok (.lload_n 0, 1) := by decide +kernel
theorem d2_22 : decode prog_31_method_6_code 22 = .ok (.lor, 1) := by decide +kernel
theorem d2_23 : decode prog_31_method_6_code 23 = .ok (.ldc2_w 25, 3) := by decide +kernel
theorem d2_26 : decode prog_31_method_6_code 26 = .ok (.land, 1) := by decide +kernel
theorem d2_27 : decode prog_31_method_6_code 27 = .ok (.lreturn, 1) := by decide +kernel
theorem own_ef2 (m : MethodId) (x0 : Int64) : entryFrame m #[(.long x0)] 4 = mkF m 0 #[.val (.long x0), .second, .unset, .unset] [] := by first | (simp [entryFrame, mkF, argsToLocals, Value.category, maxLocals]; done) | rfl
def Qrm2 (Z : State) (p1 : Int64)  (h0 : Heap) (n0 : Nat) : Option Value → Heap → List Loc → Prop := fun v h L => v = some (.long (own_ndm p1)) ∧ Fr n0 L ∧ h = h0
set_option maxRecDepth 65536 in
set_option maxHeartbeats 40000000 in
theorem rm2 (l : Launch) (Z : State) (a0 : Array Value) (hw : ∀ d ∈ tables_1, d.before a0 Z = true) (ws : List Jvm.Cond) (p1 : Int64)  (h0 : Heap) (n0 : Nat) (Z0 : n0 ≤ h0.size)  :
    MetFree l (⟨"com/example/wary_logon/warylogon/fix/WireBytes", "nonDigitMarks", "(J)J"⟩ : MethodName) (head1 (Jvm.Cond.code (⟨"com/example/wary_logon/warylogon/fix/WireBytes", "nonDigitMarks", "(J)J"⟩ : MethodName) prog_31_method_6_code 4 (some .long) :: ws) ({ frames := 0, cells := 0, slots := 0, locals := 0 } : Room)) (fun a U => a = #[(.long p1)] ∧ Z.Warmed39 U.vm ∧ U.heap = h0) (fun _ _ _ _ _ => True) (fun _ U o U' => ∃ v L, o = .returned v ∧ (Qrm2 Z p1  h0 n0) v U'.heap L ∧ FrameEnd U o U' L ({ frames := 0, cells := 0, slots := 0, locals := 0 } : Room).cells ({ frames := 0, cells := 0, slots := 0, locals := 0 } : Room).slots) := by
  refine MetFree.of_bodySF (plainFor_of_name own_pn1) hisR ?_
  intro p e s m args below meth c s₁ Bd hml0 hP hK
  obtain ⟨rfl, hZ, hh⟩ := hP
  have hx := Bd.exec
  have hby := Bd.bytes
  have hlk := Bd.notSynchronized
  have hml : c.maxLocals = 4 := hml0
  have hown : s.vm.findClass "com/example/wary_logon/warylogon/fix/WireBytes" = some m.cls := findClass_of_methodNamed Bd.named
  have hnm := (name_of_methodNamed Bd.named Bd.method).1
  have X0 : Stand p l e ({ frames := 0, cells := 0, slots := 0, locals := 0 } : Room) s m #[(.long p1)] below meth c s₁ [] 0 0 := Stand.of_body Bd
  have e0 : s₁.heap = h0 := by rw [← hh, Bd.state]; rfl
  have N0 := Fr.nil n0
  refine Rch.entry (G := (EndQ (Qrm2 Z p1  h0 n0) s ({ frames := 0, cells := 0, slots := 0, locals := 0 } : Room).cells ({ frames := 0, cells := 0, slots := 0, locals := 0 } : Room).slots)) (own_ef2 m p1) ?_
  show Rch p e below _ s₁ (mkF m 0 #[.val (.long p1), .second, .unset, .unset] [])
  refine Rch.go (fun _ q => XS.lloadN X0.here hx rfl (hb hby d2_0) rfl  q) ?_
  show Rch p e below _ s₁ (mkF m 1 #[.val (.long p1), .second, .unset, .unset] [(.long p1)])
  refine Rch.go (fun _ q => X0.ldc2J hx (own := "com/example/wary_logon/warylogon/fix/WireBytes") hown (mvT hZ (hw _ (List.mem_of_getElem? (i := 12) rfl))) rfl (hb hby d2_1) q) ?_
  show Rch p e below _ s₁ (mkF m 4 #[.val (.long p1), .second, .unset, .unset] [(.long (9187201950435737471 : Int64)), (.long p1)])
  refine Rch.go (fun _ q => XS.land X0.here hx rfl (hb hby d2_4) rfl q) ?_
  show Rch p e below _ s₁ (mkF m 5 #[.val (.long p1), .second, .unset, .unset] [(.long (p1 &&& (9187201950435737471 : Int64)))])
  refine Rch.go (fun _ q => XS.lstoreN X0.here hx rfl (hb hby d2_5) rfl (l' := #[.val (.long p1), .second, .val (.long (p1 &&& (9187201950435737471 : Int64))), .second]) rfl q) ?_
  show Rch p e below _ s₁ (mkF m 6 #[.val (.long p1), .second, .val (.long (p1 &&& (9187201950435737471 : Int64))), .second] [])
  refine Rch.go (fun _ q => XS.lloadN X0.here hx rfl (hb hby d2_6) rfl  q) ?_
  show Rch p e below _ s₁ (mkF m 7 #[.val (.long p1), .second, .val (.long (p1 &&& (9187201950435737471 : Int64))), .second] [(.long (p1 &&& (9187201950435737471 : Int64)))])
  refine Rch.go (fun _ q => X0.ldc2J hx (own := "com/example/wary_logon/warylogon/fix/WireBytes") hown (mvT hZ (hw _ (List.mem_of_getElem? (i := 13) rfl))) rfl (hb hby d2_7) q) ?_
  show Rch p e below _ s₁ (mkF m 10 #[.val (.long p1), .second, .val (.long (p1 &&& (9187201950435737471 : Int64))), .second] [(.long (5787213827046133840 : Int64)), (.long (p1 &&& (9187201950435737471 : Int64)))])
  refine Rch.go (fun _ q => XS.ladd X0.here hx rfl (hb hby d2_10) rfl q) ?_
  show Rch p e below _ s₁ (mkF m 11 #[.val (.long p1), .second, .val (.long (p1 &&& (9187201950435737471 : Int64))), .second] [(.long ((p1 &&& (9187201950435737471 : Int64)) + (5787213827046133840 : Int64)))])
  refine Rch.go (fun _ q => X0.ldc2J hx (own := "com/example/wary_logon/warylogon/fix/WireBytes") hown (mvT hZ (hw _ (List.mem_of_getElem? (i := 14) rfl))) rfl (hb hby d2_11) q) ?_
  show Rch p e below _ s₁ (mkF m 14 #[.val (.long p1), .second, .val (.long (p1 &&& (9187201950435737471 : Int64))), .second] [(.long (-1 : Int64)), (.long ((p1 &&& (9187201950435737471 : Int64)) + (5787213827046133840 : Int64)))])
  refine Rch.go (fun _ q => XS.lxor X0.here hx rfl (hb hby d2_14) rfl q) ?_
  show Rch p e below _ s₁ (mkF m 15 #[.val (.long p1), .second, .val (.long (p1 &&& (9187201950435737471 : Int64))), .second] [(.long (((p1 &&& (9187201950435737471 : Int64)) + (5787213827046133840 : Int64)) ^^^ (-1 : Int64)))])
  refine Rch.go (fun _ q => XS.lloadN X0.here hx rfl (hb hby d2_15) rfl  q) ?_
  show Rch p e below _ s₁ (mkF m 16 #[.val (.long p1), .second, .val (.long (p1 &&& (9187201950435737471 : Int64))), .second] [(.long (p1 &&& (9187201950435737471 : Int64))), (.long (((p1 &&& (9187201950435737471 : Int64)) + (5787213827046133840 : Int64)) ^^^ (-1 : Int64)))])
  refine Rch.go (fun _ q => X0.ldc2J hx (own := "com/example/wary_logon/warylogon/fix/WireBytes") hown (mvT hZ (hw _ (List.mem_of_getElem? (i := 15) rfl))) rfl (hb hby d2_16) q) ?_
  show Rch p e below _ s₁ (mkF m 19 #[.val (.long p1), .second, .val (.long (p1 &&& (9187201950435737471 : Int64))), .second] [(.long (5063812098665367110 : Int64)), (.long (p1 &&& (9187201950435737471 : Int64))), (.long (((p1 &&& (9187201950435737471 : Int64)) + (5787213827046133840 : Int64)) ^^^ (-1 : Int64)))])
  refine Rch.go (fun _ q => XS.ladd X0.here hx rfl (hb hby d2_19) rfl q) ?_
  show Rch p e below _ s₁ (mkF m 20 #[.val (.long p1), .second, .val (.long (p1 &&& (9187201950435737471 : Int64))), .second] [(.long ((p1 &&& (9187201950435737471 : Int64)) + (5063812098665367110 : Int64))), (.long (((p1 &&& (9187201950435737471 : Int64)) + (5787213827046133840 : Int64)) ^^^ (-1 : Int64)))])
  refine Rch.go (fun _ q => XS.lor X0.here hx rfl (hb hby d2_20) rfl q) ?_
  show Rch p e below _ s₁ (mkF m 21 #[.val (.long p1), .second, .val (.long (p1 &&& (9187201950435737471 : Int64))), .second] [(.long ((((p1 &&& (9187201950435737471 : Int64)) + (5787213827046133840 : Int64)) ^^^ (-1 : Int64)) ||| ((p1 &&& (9187201950435737471 : Int64)) + (5063812098665367110 : Int64))))])
  refine Rch.go (fun _ q => XS.lloadN X0.here hx rfl (hb hby d2_21) rfl  q) ?_
  show Rch p e below _ s₁ (mkF m 22 #[.val (.long p1), .second, .val (.long (p1 &&& (9187201950435737471 : Int64))), .second] [(.long p1), (.long ((((p1 &&& (9187201950435737471 : Int64)) + (5787213827046133840 : Int64)) ^^^ (-1 : Int64)) ||| ((p1 &&& (9187201950435737471 : Int64)) + (5063812098665367110 : Int64))))])
  refine Rch.go (fun _ q => XS.lor X0.here hx rfl (hb hby d2_22) rfl q) ?_
  show Rch p e below _ s₁ (mkF m 23 #[.val (.long p1), .second, .val (.long (p1 &&& (9187201950435737471 : Int64))), .second] [(.long (((((p1 &&& (9187201950435737471 : Int64)) + (5787213827046133840 : Int64)) ^^^ (-1 : Int64)) ||| ((p1 &&& (9187201950435737471 : Int64)) + (5063812098665367110 : Int64))) ||| p1))])
  refine Rch.go (fun _ q => X0.ldc2J hx (own := "com/example/wary_logon/warylogon/fix/WireBytes") hown (mvT hZ (hw _ (List.mem_of_getElem? (i := 16) rfl))) rfl (hb hby d2_23) q) ?_
  show Rch p e below _ s₁ (mkF m 26 #[.val (.long p1), .second, .val (.long (p1 &&& (9187201950435737471 : Int64))), .second] [(.long (-9187201950435737472 : Int64)), (.long (((((p1 &&& (9187201950435737471 : Int64)) + (5787213827046133840 : Int64)) ^^^ (-1 : Int64)) ||| ((p1 &&& (9187201950435737471 : Int64)) + (5063812098665367110 : Int64))) ||| p1))])
  refine Rch.go (fun _ q => XS.land X0.here hx rfl (hb hby d2_26) rfl q) ?_
  show Rch p e below _ s₁ (mkF m 27 #[.val (.long p1), .second, .val (.long (p1 &&& (9187201950435737471 : Int64))), .second] [(.long ((((((p1 &&& (9187201950435737471 : Int64)) + (5787213827046133840 : Int64)) ^^^ (-1 : Int64)) ||| ((p1 &&& (9187201950435737471 : Int64)) + (5063812098665367110 : Int64))) ||| p1) &&& (-9187201950435737472 : Int64)))])
  refine Rch.retJ X0 hx hlk Bd.returns (hb hby d2_27) (by decide) (by decide) ?_
  unfold Qrm2
  exact ⟨rfl, N0, e0⟩
theorem own_pd2 : parseMethodDescriptor "(JI)Z" = some ⟨[.long, .int], some .boolean⟩ := by decide +kernel
theorem own_ef3 (m : MethodId) (x0 : Int64) (x1 : Int32) : entryFrame m #[(.long x0), (.int x1)] maxLocals = mkF m 0 #[.val (.long x0), .second, .val (.int x1), .unset, .unset, .unset, .unset, .unset] [] := by first | (simp [entryFrame, mkF, argsToLocals, Value.category, maxLocals]; done) | rfl
def Qrm0 (Z : State) (p1 : Int64) (p2 : Int32)  (h0 : Heap) (n0 : Nat) : Option Value → Heap → List Loc → Prop := fun v h L => v = some (.int 1) ∧ Fr n0 L
set_option maxRecDepth 65536 in
set_option maxHeartbeats 40000000 in
theorem rm0 (l : Launch) (Z : State) (a0 : Array Value) (hw : ∀ d ∈ tables_1, d.before a0 Z = true) (ws : List Jvm.Cond) (p1 : Int64) (p2 : Int32)  (h0 : Heap) (n0 : Nat) (Z0 : n0 ≤ h0.size)  :
    MetFree l x (head1 (Jvm.Cond.code x code maxLocals ret :: ws) room_1) (fun a U => a = #[(.long p1), (.int p2)] ∧ Z.Warmed39 U.vm ∧ U.heap = h0) (fun _ _ _ _ _ => True) (fun _ U o U' => ∃ v L, o = .returned v ∧ (Qrm0 Z p1 p2  h0 n0) v U'.heap L ∧ FrameEnd U o U' L room_1.cells room_1.slots) := by
  refine MetFree.of_bodySF (plainFor_of_name own_pn0) hisR ?_
  intro p e s m args below meth c s₁ Bd hml0 hP hK
  obtain ⟨rfl, hZ, hh⟩ := hP
  have hx := Bd.exec
  have hby := Bd.bytes
  have hlk := Bd.notSynchronized
  have hml : c.maxLocals = 8 := hml0
  have hown : s.vm.findClass "com/example/wary_logon/warylogon/fix/WireBytesNonDigitMarksPinLaw" = some m.cls := findClass_of_methodNamed Bd.named
  have hnm := (name_of_methodNamed Bd.named Bd.method).1
  have X0 : Stand p l e room_1 s m #[(.long p1), (.int p2)] below meth c s₁ [] 0 0 := Stand.of_body Bd
  have e0 : s₁.heap = h0 := by rw [← hh, Bd.state]; rfl
  have N0 := Fr.nil n0
  refine Rch.entry (G := (EndQ (Qrm0 Z p1 p2  h0 n0) s room_1.cells room_1.slots)) (own_ef3 m p1 p2) ?_
  have hbool : ∀ x : Int32, nar .boolean x = x &&& 1 := fun _ => rfl
  show Rch p e below _ s₁ (mkF m 0 #[.val (.long p1), .second, .val (.int p2), .unset, .unset, .unset, .unset, .unset] [])
  have tail : ∀ (wd : Int64), Rch p e below (EndQ (Qrm0 Z p1 p2  h0 n0) s room_1.cells room_1.slots) s₁ (mkF m 61 #[.val (.long p1), .second, .val (.int p2), .val (.int (p2 &&& (3 : Int32))), .val (.long wd), .second, .unset, .unset] []) := by
    intro wd
    show Rch p e below _ s₁ (mkF m 61 #[.val (.long p1), .second, .val (.int p2), .val (.int (p2 &&& (3 : Int32))), .val (.long wd), .second, .unset, .unset] [])
    refine Rch.go (fun _ q => XS.lload X0.here hx rfl (hb hby at_61) rfl  q) ?_
    show Rch p e below _ s₁ (mkF m 63 #[.val (.long p1), .second, .val (.int p2), .val (.int (p2 &&& (3 : Int32))), .val (.long wd), .second, .unset, .unset] [(.long wd)])
    refine Rch.go (fun _ q => XS.iconst X0.here hx rfl (hb hby at_63) q) ?_
    show Rch p e below _ s₁ (mkF m 64 #[.val (.long p1), .second, .val (.int p2), .val (.int (p2 &&& (3 : Int32))), .val (.long wd), .second, .unset, .unset] [(.int (0 : Int32)), (.long wd)])
    obtain ⟨_, _, ⟨T1, L1, k1, n1⟩, -, X1, ⟨Lc1, hQ1, l1, y1, z1⟩, st1⟩ := Jvm.LawKit.callS X0 hx (y := (⟨"com/example/wary_logon/warylogon/fix/WireBytesNonDigitMarksPinLaw", "mark", "(JI)J"⟩ : MethodName)) hown (mvT hZ (hw _ (List.mem_of_getElem? (i := 2) rfl))) (mvT hZ (hw _ (List.mem_of_getElem? (i := 3) rfl))) (mvT hZ (hw _ (List.mem_of_getElem? (i := 4) rfl))) (mvT hZ (hw _ (List.mem_of_getElem? (i := 5) rfl))) (by decide) (backOf (W := 0) (rm1 l Z a0 hw [] wd (0 : Int32) h0 n0 Z0) hZ (hw _ (List.mem_of_getElem? (i := 5) rfl)) (hw _ (List.mem_of_getElem? (i := 4) rfl)) (by decide) (by decide)) (g := (mkF m 64 #[.val (.long p1), .second, .val (.int p2), .val (.int (p2 &&& (3 : Int32))), .val (.long wd), .second, .unset, .unset] [(.int (0 : Int32)), (.long wd)])) rfl (by rw [hml]; rfl) (argsL := [(.long wd), (.int (0 : Int32))]) (rest := []) (lenOf own_pd0 rfl) rfl (by show 2 * 0 + _ ≤ _; exact Nat.le_of_eq rfl) (hb hby at_64) (fun _ _ => ⟨rfl, e0, (by decide : 0 + 0 ≤ _), (by decide : 0 + 0 ≤ _)⟩)
    dsimp only [Pt.U, Pt.locs, Pt.cells, Pt.slots] at X1 l1 y1 z1 st1 hQ1
    subst l1 y1 z1
    obtain ⟨rfl, Nc, ec⟩ := hQ1
    refine Rch.go st1 ?_
    show Rch p e below _ T1 (mkF m 67 #[.val (.long p1), .second, .val (.int p2), .val (.int (p2 &&& (3 : Int32))), .val (.long wd), .second, .unset, .unset] [(.long (own_mark wd (0 : Int32)))])
    have N1 := Fr.app N0 Nc
    have e1 := ec
    refine Rch.go (fun _ q => XS.lload X1.here hx rfl (hb hby at_67) rfl  q) ?_
    show Rch p e below _ T1 (mkF m 69 #[.val (.long p1), .second, .val (.int p2), .val (.int (p2 &&& (3 : Int32))), .val (.long wd), .second, .unset, .unset] [(.long wd), (.long (own_mark wd (0 : Int32)))])
    refine Rch.go (fun _ q => XS.iconst X1.here hx rfl (hb hby at_69) q) ?_
    show Rch p e below _ T1 (mkF m 70 #[.val (.long p1), .second, .val (.int p2), .val (.int (p2 &&& (3 : Int32))), .val (.long wd), .second, .unset, .unset] [(.int (1 : Int32)), (.long wd), (.long (own_mark wd (0 : Int32)))])
    obtain ⟨_, _, ⟨T2, L2, k2, n2⟩, -, X2, ⟨Lc2, hQ2, l2, y2, z2⟩, st2⟩ := Jvm.LawKit.callS X1 hx (y := (⟨"com/example/wary_logon/warylogon/fix/WireBytesNonDigitMarksPinLaw", "mark", "(JI)J"⟩ : MethodName)) hown (mvT hZ (hw _ (List.mem_of_getElem? (i := 2) rfl))) (mvT hZ (hw _ (List.mem_of_getElem? (i := 3) rfl))) (mvT hZ (hw _ (List.mem_of_getElem? (i := 4) rfl))) (mvT hZ (hw _ (List.mem_of_getElem? (i := 5) rfl))) (by decide) (backOf (W := 2) (rm1 l Z a0 hw [] wd (1 : Int32) h0 n0 Z0) hZ (hw _ (List.mem_of_getElem? (i := 5) rfl)) (hw _ (List.mem_of_getElem? (i := 4) rfl)) (by decide) (by decide)) (g := (mkF m 70 #[.val (.long p1), .second, .val (.int p2), .val (.int (p2 &&& (3 : Int32))), .val (.long wd), .second, .unset, .unset] [(.int (1 : Int32)), (.long wd), (.long (own_mark wd (0 : Int32)))])) rfl (by rw [hml]; rfl) (argsL := [(.long wd), (.int (1 : Int32))]) (rest := [(.long (own_mark wd (0 : Int32)))]) (lenOf own_pd0 rfl) rfl (by show 2 * 0 + _ ≤ _; exact Nat.le_of_eq rfl) (hb hby at_70) (fun _ _ => ⟨rfl, e1, (by decide : 0 + 0 ≤ _), (by decide : 0 + 0 ≤ _)⟩)
    dsimp only [Pt.U, Pt.locs, Pt.cells, Pt.slots] at X2 l2 y2 z2 st2 hQ2
    subst l2 y2 z2
    obtain ⟨rfl, Nc, ec⟩ := hQ2
    refine Rch.go st2 ?_
    show Rch p e below _ T2 (mkF m 73 #[.val (.long p1), .second, .val (.int p2), .val (.int (p2 &&& (3 : Int32))), .val (.long wd), .second, .unset, .unset] [(.long (own_mark wd (1 : Int32))), (.long (own_mark wd (0 : Int32)))])
    have N2 := Fr.app N1 Nc
    have e2 := ec
    refine Rch.go (fun _ q => XS.lor X2.here hx rfl (hb hby at_73) rfl q) ?_
    show Rch p e below _ T2 (mkF m 74 #[.val (.long p1), .second, .val (.int p2), .val (.int (p2 &&& (3 : Int32))), .val (.long wd), .second, .unset, .unset] [(.long ((own_mark wd (0 : Int32)) ||| (own_mark wd (1 : Int32))))])
    refine Rch.go (fun _ q => XS.lload X2.here hx rfl (hb hby at_74) rfl  q) ?_
    show Rch p e below _ T2 (mkF m 76 #[.val (.long p1), .second, .val (.int p2), .val (.int (p2 &&& (3 : Int32))), .val (.long wd), .second, .unset, .unset] [(.long wd), (.long ((own_mark wd (0 : Int32)) ||| (own_mark wd (1 : Int32))))])
    refine Rch.go (fun _ q => XS.iconst X2.here hx rfl (hb hby at_76) q) ?_
    show Rch p e below _ T2 (mkF m 77 #[.val (.long p1), .second, .val (.int p2), .val (.int (p2 &&& (3 : Int32))), .val (.long wd), .second, .unset, .unset] [(.int (2 : Int32)), (.long wd), (.long ((own_mark wd (0 : Int32)) ||| (own_mark wd (1 : Int32))))])
    obtain ⟨_, _, ⟨T3, L3, k3, n3⟩, -, X3, ⟨Lc3, hQ3, l3, y3, z3⟩, st3⟩ := Jvm.LawKit.callS X2 hx (y := (⟨"com/example/wary_logon/warylogon/fix/WireBytesNonDigitMarksPinLaw", "mark", "(JI)J"⟩ : MethodName)) hown (mvT hZ (hw _ (List.mem_of_getElem? (i := 2) rfl))) (mvT hZ (hw _ (List.mem_of_getElem? (i := 3) rfl))) (mvT hZ (hw _ (List.mem_of_getElem? (i := 4) rfl))) (mvT hZ (hw _ (List.mem_of_getElem? (i := 5) rfl))) (by decide) (backOf (W := 2) (rm1 l Z a0 hw [] wd (2 : Int32) h0 n0 Z0) hZ (hw _ (List.mem_of_getElem? (i := 5) rfl)) (hw _ (List.mem_of_getElem? (i := 4) rfl)) (by decide) (by decide)) (g := (mkF m 77 #[.val (.long p1), .second, .val (.int p2), .val (.int (p2 &&& (3 : Int32))), .val (.long wd), .second, .unset, .unset] [(.int (2 : Int32)), (.long wd), (.long ((own_mark wd (0 : Int32)) ||| (own_mark wd (1 : Int32))))])) rfl (by rw [hml]; rfl) (argsL := [(.long wd), (.int (2 : Int32))]) (rest := [(.long ((own_mark wd (0 : Int32)) ||| (own_mark wd (1 : Int32))))]) (lenOf own_pd0 rfl) rfl (by show 2 * 0 + _ ≤ _; exact Nat.le_of_eq rfl) (hb hby at_77) (fun _ _ => ⟨rfl, e2, (by decide : 0 + 0 ≤ _), (by decide : 0 + 0 ≤ _)⟩)
    dsimp only [Pt.U, Pt.locs, Pt.cells, Pt.slots] at X3 l3 y3 z3 st3 hQ3
    subst l3 y3 z3
    obtain ⟨rfl, Nc, ec⟩ := hQ3
    refine Rch.go st3 ?_
    show Rch p e below _ T3 (mkF m 80 #[.val (.long p1), .second, .val (.int p2), .val (.int (p2 &&& (3 : Int32))), .val (.long wd), .second, .unset, .unset] [(.long (own_mark wd (2 : Int32))), (.long ((own_mark wd (0 : Int32)) ||| (own_mark wd (1 : Int32))))])
    have N3 := Fr.app N2 Nc
    have e3 := ec
    refine Rch.go (fun _ q => XS.lor X3.here hx rfl (hb hby at_80) rfl q) ?_
    show Rch p e below _ T3 (mkF m 81 #[.val (.long p1), .second, .val (.int p2), .val (.int (p2 &&& (3 : Int32))), .val (.long wd), .second, .unset, .unset] [(.long (((own_mark wd (0 : Int32)) ||| (own_mark wd (1 : Int32))) ||| (own_mark wd (2 : Int32))))])
    refine Rch.go (fun _ q => XS.lload X3.here hx rfl (hb hby at_81) rfl  q) ?_
    show Rch p e below _ T3 (mkF m 83 #[.val (.long p1), .second, .val (.int p2), .val (.int (p2 &&& (3 : Int32))), .val (.long wd), .second, .unset, .unset] [(.long wd), (.long (((own_mark wd (0 : Int32)) ||| (own_mark wd (1 : Int32))) ||| (own_mark wd (2 : Int32))))])
    refine Rch.go (fun _ q => XS.iconst X3.here hx rfl (hb hby at_83) q) ?_
    show Rch p e below _ T3 (mkF m 84 #[.val (.long p1), .second, .val (.int p2), .val (.int (p2 &&& (3 : Int32))), .val (.long wd), .second, .unset, .unset] [(.int (3 : Int32)), (.long wd), (.long (((own_mark wd (0 : Int32)) ||| (own_mark wd (1 : Int32))) ||| (own_mark wd (2 : Int32))))])
    obtain ⟨_, _, ⟨T4, L4, k4, n4⟩, -, X4, ⟨Lc4, hQ4, l4, y4, z4⟩, st4⟩ := Jvm.LawKit.callS X3 hx (y := (⟨"com/example/wary_logon/warylogon/fix/WireBytesNonDigitMarksPinLaw", "mark", "(JI)J"⟩ : MethodName)) hown (mvT hZ (hw _ (List.mem_of_getElem? (i := 2) rfl))) (mvT hZ (hw _ (List.mem_of_getElem? (i := 3) rfl))) (mvT hZ (hw _ (List.mem_of_getElem? (i := 4) rfl))) (mvT hZ (hw _ (List.mem_of_getElem? (i := 5) rfl))) (by decide) (backOf (W := 2) (rm1 l Z a0 hw [] wd (3 : Int32) h0 n0 Z0) hZ (hw _ (List.mem_of_getElem? (i := 5) rfl)) (hw _ (List.mem_of_getElem? (i := 4) rfl)) (by decide) (by decide)) (g := (mkF m 84 #[.val (.long p1), .second, .val (.int p2), .val (.int (p2 &&& (3 : Int32))), .val (.long wd), .second, .unset, .unset] [(.int (3 : Int32)), (.long wd), (.long (((own_mark wd (0 : Int32)) ||| (own_mark wd (1 : Int32))) ||| (own_mark wd (2 : Int32))))])) rfl (by rw [hml]; rfl) (argsL := [(.long wd), (.int (3 : Int32))]) (rest := [(.long (((own_mark wd (0 : Int32)) ||| (own_mark wd (1 : Int32))) ||| (own_mark wd (2 : Int32))))]) (lenOf own_pd0 rfl) rfl (by show 2 * 0 + _ ≤ _; exact Nat.le_of_eq rfl) (hb hby at_84) (fun _ _ => ⟨rfl, e3, (by decide : 0 + 0 ≤ _), (by decide : 0 + 0 ≤ _)⟩)
    dsimp only [Pt.U, Pt.locs, Pt.cells, Pt.slots] at X4 l4 y4 z4 st4 hQ4
    subst l4 y4 z4
    obtain ⟨rfl, Nc, ec⟩ := hQ4
    refine Rch.go st4 ?_
    show Rch p e below _ T4 (mkF m 87 #[.val (.long p1), .second, .val (.int p2), .val (.int (p2 &&& (3 : Int32))), .val (.long wd), .second, .unset, .unset] [(.long (own_mark wd (3 : Int32))), (.long (((own_mark wd (0 : Int32)) ||| (own_mark wd (1 : Int32))) ||| (own_mark wd (2 : Int32))))])
    have N4 := Fr.app N3 Nc
    have e4 := ec
    refine Rch.go (fun _ q => XS.lor X4.here hx rfl (hb hby at_87) rfl q) ?_
    show Rch p e below _ T4 (mkF m 88 #[.val (.long p1), .second, .val (.int p2), .val (.int (p2 &&& (3 : Int32))), .val (.long wd), .second, .unset, .unset] [(.long ((((own_mark wd (0 : Int32)) ||| (own_mark wd (1 : Int32))) ||| (own_mark wd (2 : Int32))) ||| (own_mark wd (3 : Int32))))])
    refine Rch.go (fun _ q => XS.lload X4.here hx rfl (hb hby at_88) rfl  q) ?_
    show Rch p e below _ T4 (mkF m 90 #[.val (.long p1), .second, .val (.int p2), .val (.int (p2 &&& (3 : Int32))), .val (.long wd), .second, .unset, .unset] [(.long wd), (.long ((((own_mark wd (0 : Int32)) ||| (own_mark wd (1 : Int32))) ||| (own_mark wd (2 : Int32))) ||| (own_mark wd (3 : Int32))))])
    refine Rch.go (fun _ q => XS.iconst X4.here hx rfl (hb hby at_90) q) ?_
    show Rch p e below _ T4 (mkF m 91 #[.val (.long p1), .second, .val (.int p2), .val (.int (p2 &&& (3 : Int32))), .val (.long wd), .second, .unset, .unset] [(.int (4 : Int32)), (.long wd), (.long ((((own_mark wd (0 : Int32)) ||| (own_mark wd (1 : Int32))) ||| (own_mark wd (2 : Int32))) ||| (own_mark wd (3 : Int32))))])
    obtain ⟨_, _, ⟨T5, L5, k5, n5⟩, -, X5, ⟨Lc5, hQ5, l5, y5, z5⟩, st5⟩ := Jvm.LawKit.callS X4 hx (y := (⟨"com/example/wary_logon/warylogon/fix/WireBytesNonDigitMarksPinLaw", "mark", "(JI)J"⟩ : MethodName)) hown (mvT hZ (hw _ (List.mem_of_getElem? (i := 2) rfl))) (mvT hZ (hw _ (List.mem_of_getElem? (i := 3) rfl))) (mvT hZ (hw _ (List.mem_of_getElem? (i := 4) rfl))) (mvT hZ (hw _ (List.mem_of_getElem? (i := 5) rfl))) (by decide) (backOf (W := 2) (rm1 l Z a0 hw [] wd (4 : Int32) h0 n0 Z0) hZ (hw _ (List.mem_of_getElem? (i := 5) rfl)) (hw _ (List.mem_of_getElem? (i := 4) rfl)) (by decide) (by decide)) (g := (mkF m 91 #[.val (.long p1), .second, .val (.int p2), .val (.int (p2 &&& (3 : Int32))), .val (.long wd), .second, .unset, .unset] [(.int (4 : Int32)), (.long wd), (.long ((((own_mark wd (0 : Int32)) ||| (own_mark wd (1 : Int32))) ||| (own_mark wd (2 : Int32))) ||| (own_mark wd (3 : Int32))))])) rfl (by rw [hml]; rfl) (argsL := [(.long wd), (.int (4 : Int32))]) (rest := [(.long ((((own_mark wd (0 : Int32)) ||| (own_mark wd (1 : Int32))) ||| (own_mark wd (2 : Int32))) ||| (own_mark wd (3 : Int32))))]) (lenOf own_pd0 rfl) rfl (by show 2 * 0 + _ ≤ _; exact Nat.le_of_eq rfl) (hb hby at_91) (fun _ _ => ⟨rfl, e4, (by decide : 0 + 0 ≤ _), (by decide : 0 + 0 ≤ _)⟩)
    dsimp only [Pt.U, Pt.locs, Pt.cells, Pt.slots] at X5 l5 y5 z5 st5 hQ5
    subst l5 y5 z5
    obtain ⟨rfl, Nc, ec⟩ := hQ5
    refine Rch.go st5 ?_
    show Rch p e below _ T5 (mkF m 94 #[.val (.long p1), .second, .val (.int p2), .val (.int (p2 &&& (3 : Int32))), .val (.long wd), .second, .unset, .unset] [(.long (own_mark wd (4 : Int32))), (.long ((((own_mark wd (0 : Int32)) ||| (own_mark wd (1 : Int32))) ||| (own_mark wd (2 : Int32))) ||| (own_mark wd (3 : Int32))))])
    have N5 := Fr.app N4 Nc
    have e5 := ec
    refine Rch.go (fun _ q => XS.lor X5.here hx rfl (hb hby at_94) rfl q) ?_
    show Rch p e below _ T5 (mkF m 95 #[.val (.long p1), .second, .val (.int p2), .val (.int (p2 &&& (3 : Int32))), .val (.long wd), .second, .unset, .unset] [(.long (((((own_mark wd (0 : Int32)) ||| (own_mark wd (1 : Int32))) ||| (own_mark wd (2 : Int32))) ||| (own_mark wd (3 : Int32))) ||| (own_mark wd (4 : Int32))))])
    refine Rch.go (fun _ q => XS.lload X5.here hx rfl (hb hby at_95) rfl  q) ?_
    show Rch p e below _ T5 (mkF m 97 #[.val (.long p1), .second, .val (.int p2), .val (.int (p2 &&& (3 : Int32))), .val (.long wd), .second, .unset, .unset] [(.long wd), (.long (((((own_mark wd (0 : Int32)) ||| (own_mark wd (1 : Int32))) ||| (own_mark wd (2 : Int32))) ||| (own_mark wd (3 : Int32))) ||| (own_mark wd (4 : Int32))))])
    refine Rch.go (fun _ q => XS.iconst X5.here hx rfl (hb hby at_97) q) ?_
    show Rch p e below _ T5 (mkF m 98 #[.val (.long p1), .second, .val (.int p2), .val (.int (p2 &&& (3 : Int32))), .val (.long wd), .second, .unset, .unset] [(.int (5 : Int32)), (.long wd), (.long (((((own_mark wd (0 : Int32)) ||| (own_mark wd (1 : Int32))) ||| (own_mark wd (2 : Int32))) ||| (own_mark wd (3 : Int32))) ||| (own_mark wd (4 : Int32))))])
    obtain ⟨_, _, ⟨T6, L6, k6, n6⟩, -, X6, ⟨Lc6, hQ6, l6, y6, z6⟩, st6⟩ := Jvm.LawKit.callS X5 hx (y := (⟨"com/example/wary_logon/warylogon/fix/WireBytesNonDigitMarksPinLaw", "mark", "(JI)J"⟩ : MethodName)) hown (mvT hZ (hw _ (List.mem_of_getElem? (i := 2) rfl))) (mvT hZ (hw _ (List.mem_of_getElem? (i := 3) rfl))) (mvT hZ (hw _ (List.mem_of_getElem? (i := 4) rfl))) (mvT hZ (hw _ (List.mem_of_getElem? (i := 5) rfl))) (by decide) (backOf (W := 2) (rm1 l Z a0 hw [] wd (5 : Int32) h0 n0 Z0) hZ (hw _ (List.mem_of_getElem? (i := 5) rfl)) (hw _ (List.mem_of_getElem? (i := 4) rfl)) (by decide) (by decide)) (g := (mkF m 98 #[.val (.long p1), .second, .val (.int p2), .val (.int (p2 &&& (3 : Int32))), .val (.long wd), .second, .unset, .unset] [(.int (5 : Int32)), (.long wd), (.long (((((own_mark wd (0 : Int32)) ||| (own_mark wd (1 : Int32))) ||| (own_mark wd (2 : Int32))) ||| (own_mark wd (3 : Int32))) ||| (own_mark wd (4 : Int32))))])) rfl (by rw [hml]; rfl) (argsL := [(.long wd), (.int (5 : Int32))]) (rest := [(.long (((((own_mark wd (0 : Int32)) ||| (own_mark wd (1 : Int32))) ||| (own_mark wd (2 : Int32))) ||| (own_mark wd (3 : Int32))) ||| (own_mark wd (4 : Int32))))]) (lenOf own_pd0 rfl) rfl (by show 2 * 0 + _ ≤ _; exact Nat.le_of_eq rfl) (hb hby at_98) (fun _ _ => ⟨rfl, e5, (by decide : 0 + 0 ≤ _), (by decide : 0 + 0 ≤ _)⟩)
    dsimp only [Pt.U, Pt.locs, Pt.cells, Pt.slots] at X6 l6 y6 z6 st6 hQ6
    subst l6 y6 z6
    obtain ⟨rfl, Nc, ec⟩ := hQ6
    refine Rch.go st6 ?_
    show Rch p e below _ T6 (mkF m 101 #[.val (.long p1), .second, .val (.int p2), .val (.int (p2 &&& (3 : Int32))), .val (.long wd), .second, .unset, .unset] [(.long (own_mark wd (5 : Int32))), (.long (((((own_mark wd (0 : Int32)) ||| (own_mark wd (1 : Int32))) ||| (own_mark wd (2 : Int32))) ||| (own_mark wd (3 : Int32))) ||| (own_mark wd (4 : Int32))))])
    have N6 := Fr.app N5 Nc
    have e6 := ec
    refine Rch.go (fun _ q => XS.lor X6.here hx rfl (hb hby at_101) rfl q) ?_
    show Rch p e below _ T6 (mkF m 102 #[.val (.long p1), .second, .val (.int p2), .val (.int (p2 &&& (3 : Int32))), .val (.long wd), .second, .unset, .unset] [(.long ((((((own_mark wd (0 : Int32)) ||| (own_mark wd (1 : Int32))) ||| (own_mark wd (2 : Int32))) ||| (own_mark wd (3 : Int32))) ||| (own_mark wd (4 : Int32))) ||| (own_mark wd (5 : Int32))))])
    refine Rch.go (fun _ q => XS.lload X6.here hx rfl (hb hby at_102) rfl  q) ?_
    show Rch p e below _ T6 (mkF m 104 #[.val (.long p1), .second, .val (.int p2), .val (.int (p2 &&& (3 : Int32))), .val (.long wd), .second, .unset, .unset] [(.long wd), (.long ((((((own_mark wd (0 : Int32)) ||| (own_mark wd (1 : Int32))) ||| (own_mark wd (2 : Int32))) ||| (own_mark wd (3 : Int32))) ||| (own_mark wd (4 : Int32))) ||| (own_mark wd (5 : Int32))))])
    refine Rch.go (fun _ q => XS.bipush X6.here hx rfl (hb hby at_104) q) ?_
    show Rch p e below _ T6 (mkF m 106 #[.val (.long p1), .second, .val (.int p2), .val (.int (p2 &&& (3 : Int32))), .val (.long wd), .second, .unset, .unset] [(.int (6 : Int32)), (.long wd), (.long ((((((own_mark wd (0 : Int32)) ||| (own_mark wd (1 : Int32))) ||| (own_mark wd (2 : Int32))) ||| (own_mark wd (3 : Int32))) ||| (own_mark wd (4 : Int32))) ||| (own_mark wd (5 : Int32))))])
    obtain ⟨_, _, ⟨T7, L7, k7, n7⟩, -, X7, ⟨Lc7, hQ7, l7, y7, z7⟩, st7⟩ := Jvm.LawKit.callS X6 hx (y := (⟨"com/example/wary_logon/warylogon/fix/WireBytesNonDigitMarksPinLaw", "mark", "(JI)J"⟩ : MethodName)) hown (mvT hZ (hw _ (List.mem_of_getElem? (i := 2) rfl))) (mvT hZ (hw _ (List.mem_of_getElem? (i := 3) rfl))) (mvT hZ (hw _ (List.mem_of_getElem? (i := 4) rfl))) (mvT hZ (hw _ (List.mem_of_getElem? (i := 5) rfl))) (by decide) (backOf (W := 2) (rm1 l Z a0 hw [] wd (6 : Int32) h0 n0 Z0) hZ (hw _ (List.mem_of_getElem? (i := 5) rfl)) (hw _ (List.mem_of_getElem? (i := 4) rfl)) (by decide) (by decide)) (g := (mkF m 106 #[.val (.long p1), .second, .val (.int p2), .val (.int (p2 &&& (3 : Int32))), .val (.long wd), .second, .unset, .unset] [(.int (6 : Int32)), (.long wd), (.long ((((((own_mark wd (0 : Int32)) ||| (own_mark wd (1 : Int32))) ||| (own_mark wd (2 : Int32))) ||| (own_mark wd (3 : Int32))) ||| (own_mark wd (4 : Int32))) ||| (own_mark wd (5 : Int32))))])) rfl (by rw [hml]; rfl) (argsL := [(.long wd), (.int (6 : Int32))]) (rest := [(.long ((((((own_mark wd (0 : Int32)) ||| (own_mark wd (1 : Int32))) ||| (own_mark wd (2 : Int32))) ||| (own_mark wd (3 : Int32))) ||| (own_mark wd (4 : Int32))) ||| (own_mark wd (5 : Int32))))]) (lenOf own_pd0 rfl) rfl (by show 2 * 0 + _ ≤ _; exact Nat.le_of_eq rfl) (hb hby at_106) (fun _ _ => ⟨rfl, e6, (by decide : 0 + 0 ≤ _), (by decide : 0 + 0 ≤ _)⟩)
    dsimp only [Pt.U, Pt.locs, Pt.cells, Pt.slots] at X7 l7 y7 z7 st7 hQ7
    subst l7 y7 z7
    obtain ⟨rfl, Nc, ec⟩ := hQ7
    refine Rch.go st7 ?_
    show Rch p e below _ T7 (mkF m 109 #[.val (.long p1), .second, .val (.int p2), .val (.int (p2 &&& (3 : Int32))), .val (.long wd), .second, .unset, .unset] [(.long (own_mark wd (6 : Int32))), (.long ((((((own_mark wd (0 : Int32)) ||| (own_mark wd (1 : Int32))) ||| (own_mark wd (2 : Int32))) ||| (own_mark wd (3 : Int32))) ||| (own_mark wd (4 : Int32))) ||| (own_mark wd (5 : Int32))))])
    have N7 := Fr.app N6 Nc
    have e7 := ec
    refine Rch.go (fun _ q => XS.lor X7.here hx rfl (hb hby at_109) rfl q) ?_
    show Rch p e below _ T7 (mkF m 110 #[.val (.long p1), .second, .val (.int p2), .val (.int (p2 &&& (3 : Int32))), .val (.long wd), .second, .unset, .unset] [(.long (((((((own_mark wd (0 : Int32)) ||| (own_mark wd (1 : Int32))) ||| (own_mark wd (2 : Int32))) ||| (own_mark wd (3 : Int32))) ||| (own_mark wd (4 : Int32))) ||| (own_mark wd (5 : Int32))) ||| (own_mark wd (6 : Int32))))])
    refine Rch.go (fun _ q => XS.lload X7.here hx rfl (hb hby at_110) rfl  q) ?_
    show Rch p e below _ T7 (mkF m 112 #[.val (.long p1), .second, .val (.int p2), .val (.int (p2 &&& (3 : Int32))), .val (.long wd), .second, .unset, .unset] [(.long wd), (.long (((((((own_mark wd (0 : Int32)) ||| (own_mark wd (1 : Int32))) ||| (own_mark wd (2 : Int32))) ||| (own_mark wd (3 : Int32))) ||| (own_mark wd (4 : Int32))) ||| (own_mark wd (5 : Int32))) ||| (own_mark wd (6 : Int32))))])
    refine Rch.go (fun _ q => XS.bipush X7.here hx rfl (hb hby at_112) q) ?_
    show Rch p e below _ T7 (mkF m 114 #[.val (.long p1), .second, .val (.int p2), .val (.int (p2 &&& (3 : Int32))), .val (.long wd), .second, .unset, .unset] [(.int (7 : Int32)), (.long wd), (.long (((((((own_mark wd (0 : Int32)) ||| (own_mark wd (1 : Int32))) ||| (own_mark wd (2 : Int32))) ||| (own_mark wd (3 : Int32))) ||| (own_mark wd (4 : Int32))) ||| (own_mark wd (5 : Int32))) ||| (own_mark wd (6 : Int32))))])
    obtain ⟨_, _, ⟨T8, L8, k8, n8⟩, -, X8, ⟨Lc8, hQ8, l8, y8, z8⟩, st8⟩ := Jvm.LawKit.callS X7 hx (y := (⟨"com/example/wary_logon/warylogon/fix/WireBytesNonDigitMarksPinLaw", "mark", "(JI)J"⟩ : MethodName)) hown (mvT hZ (hw _ (List.mem_of_getElem? (i := 2) rfl))) (mvT hZ (hw _ (List.mem_of_getElem? (i := 3) rfl))) (mvT hZ (hw _ (List.mem_of_getElem? (i := 4) rfl))) (mvT hZ (hw _ (List.mem_of_getElem? (i := 5) rfl))) (by decide) (backOf (W := 2) (rm1 l Z a0 hw [] wd (7 : Int32) h0 n0 Z0) hZ (hw _ (List.mem_of_getElem? (i := 5) rfl)) (hw _ (List.mem_of_getElem? (i := 4) rfl)) (by decide) (by decide)) (g := (mkF m 114 #[.val (.long p1), .second, .val (.int p2), .val (.int (p2 &&& (3 : Int32))), .val (.long wd), .second, .unset, .unset] [(.int (7 : Int32)), (.long wd), (.long (((((((own_mark wd (0 : Int32)) ||| (own_mark wd (1 : Int32))) ||| (own_mark wd (2 : Int32))) ||| (own_mark wd (3 : Int32))) ||| (own_mark wd (4 : Int32))) ||| (own_mark wd (5 : Int32))) ||| (own_mark wd (6 : Int32))))])) rfl (by rw [hml]; rfl) (argsL := [(.long wd), (.int (7 : Int32))]) (rest := [(.long (((((((own_mark wd (0 : Int32)) ||| (own_mark wd (1 : Int32))) ||| (own_mark wd (2 : Int32))) ||| (own_mark wd (3 : Int32))) ||| (own_mark wd (4 : Int32))) ||| (own_mark wd (5 : Int32))) ||| (own_mark wd (6 : Int32))))]) (lenOf own_pd0 rfl) rfl (by show 2 * 0 + _ ≤ _; exact Nat.le_of_eq rfl) (hb hby at_114) (fun _ _ => ⟨rfl, e7, (by decide : 0 + 0 ≤ _), (by decide : 0 + 0 ≤ _)⟩)
    dsimp only [Pt.U, Pt.locs, Pt.cells, Pt.slots] at X8 l8 y8 z8 st8 hQ8
    subst l8 y8 z8
    obtain ⟨rfl, Nc, ec⟩ := hQ8
    refine Rch.go st8 ?_
    show Rch p e below _ T8 (mkF m 117 #[.val (.long p1), .second, .val (.int p2), .val (.int (p2 &&& (3 : Int32))), .val (.long wd), .second, .unset, .unset] [(.long (own_mark wd (7 : Int32))), (.long (((((((own_mark wd (0 : Int32)) ||| (own_mark wd (1 : Int32))) ||| (own_mark wd (2 : Int32))) ||| (own_mark wd (3 : Int32))) ||| (own_mark wd (4 : Int32))) ||| (own_mark wd (5 : Int32))) ||| (own_mark wd (6 : Int32))))])
    have N8 := Fr.app N7 Nc
    have e8 := ec
    refine Rch.go (fun _ q => XS.lor X8.here hx rfl (hb hby at_117) rfl q) ?_
    show Rch p e below _ T8 (mkF m 118 #[.val (.long p1), .second, .val (.int p2), .val (.int (p2 &&& (3 : Int32))), .val (.long wd), .second, .unset, .unset] [(.long ((((((((own_mark wd (0 : Int32)) ||| (own_mark wd (1 : Int32))) ||| (own_mark wd (2 : Int32))) ||| (own_mark wd (3 : Int32))) ||| (own_mark wd (4 : Int32))) ||| (own_mark wd (5 : Int32))) ||| (own_mark wd (6 : Int32))) ||| (own_mark wd (7 : Int32))))])
    refine Rch.go (fun _ q => XS.lstore X8.here hx rfl (hb hby at_118) rfl (l' := #[.val (.long p1), .second, .val (.int p2), .val (.int (p2 &&& (3 : Int32))), .val (.long wd), .second, .val (.long ((((((((own_mark wd (0 : Int32)) ||| (own_mark wd (1 : Int32))) ||| (own_mark wd (2 : Int32))) ||| (own_mark wd (3 : Int32))) ||| (own_mark wd (4 : Int32))) ||| (own_mark wd (5 : Int32))) ||| (own_mark wd (6 : Int32))) ||| (own_mark wd (7 : Int32)))), .second]) rfl q) ?_
    show Rch p e below _ T8 (mkF m 120 #[.val (.long p1), .second, .val (.int p2), .val (.int (p2 &&& (3 : Int32))), .val (.long wd), .second, .val (.long ((((((((own_mark wd (0 : Int32)) ||| (own_mark wd (1 : Int32))) ||| (own_mark wd (2 : Int32))) ||| (own_mark wd (3 : Int32))) ||| (own_mark wd (4 : Int32))) ||| (own_mark wd (5 : Int32))) ||| (own_mark wd (6 : Int32))) ||| (own_mark wd (7 : Int32)))), .second] [])
    refine Rch.go (fun _ q => XS.lload X8.here hx rfl (hb hby at_120) rfl  q) ?_
    show Rch p e below _ T8 (mkF m 122 #[.val (.long p1), .second, .val (.int p2), .val (.int (p2 &&& (3 : Int32))), .val (.long wd), .second, .val (.long ((((((((own_mark wd (0 : Int32)) ||| (own_mark wd (1 : Int32))) ||| (own_mark wd (2 : Int32))) ||| (own_mark wd (3 : Int32))) ||| (own_mark wd (4 : Int32))) ||| (own_mark wd (5 : Int32))) ||| (own_mark wd (6 : Int32))) ||| (own_mark wd (7 : Int32)))), .second] [(.long wd)])
    obtain ⟨_, _, ⟨T9, L9, k9, n9⟩, -, X9, ⟨Lc9, hQ9, l9, y9, z9⟩, st9⟩ := Jvm.LawKit.callS X8 hx (y := (⟨"com/example/wary_logon/warylogon/fix/WireBytes", "nonDigitMarks", "(J)J"⟩ : MethodName)) hown (mvT hZ (hw _ (List.mem_of_getElem? (i := 8) rfl))) (mvT hZ (hw _ (List.mem_of_getElem? (i := 9) rfl))) (mvT hZ (hw _ (List.mem_of_getElem? (i := 10) rfl))) (mvT hZ (hw _ (List.mem_of_getElem? (i := 11) rfl))) (by decide) (backOf (W := 0) (rm2 l Z a0 hw [] wd h0 n0 Z0) hZ (hw _ (List.mem_of_getElem? (i := 11) rfl)) (hw _ (List.mem_of_getElem? (i := 10) rfl)) (by decide) (by decide)) (g := (mkF m 122 #[.val (.long p1), .second, .val (.int p2), .val (.int (p2 &&& (3 : Int32))), .val (.long wd), .second, .val (.long ((((((((own_mark wd (0 : Int32)) ||| (own_mark wd (1 : Int32))) ||| (own_mark wd (2 : Int32))) ||| (own_mark wd (3 : Int32))) ||| (own_mark wd (4 : Int32))) ||| (own_mark wd (5 : Int32))) ||| (own_mark wd (6 : Int32))) ||| (own_mark wd (7 : Int32)))), .second] [(.long wd)])) rfl (by rw [hml]; rfl) (argsL := [(.long wd)]) (rest := []) (lenOf own_pd1 rfl) rfl (by show 2 * 0 + _ ≤ _; exact Nat.le_of_eq rfl) (hb hby at_122) (fun _ _ => ⟨rfl, e8, (by decide : 0 + 0 ≤ _), (by decide : 0 + 0 ≤ _)⟩)
    dsimp only [Pt.U, Pt.locs, Pt.cells, Pt.slots] at X9 l9 y9 z9 st9 hQ9
    subst l9 y9 z9
    obtain ⟨rfl, Nc, ec⟩ := hQ9
    refine Rch.go st9 ?_
    show Rch p e below _ T9 (mkF m 125 #[.val (.long p1), .second, .val (.int p2), .val (.int (p2 &&& (3 : Int32))), .val (.long wd), .second, .val (.long ((((((((own_mark wd (0 : Int32)) ||| (own_mark wd (1 : Int32))) ||| (own_mark wd (2 : Int32))) ||| (own_mark wd (3 : Int32))) ||| (own_mark wd (4 : Int32))) ||| (own_mark wd (5 : Int32))) ||| (own_mark wd (6 : Int32))) ||| (own_mark wd (7 : Int32)))), .second] [(.long (own_ndm wd))])
    have N9 := Fr.app N8 Nc
    have e9 := ec
    refine Rch.go (fun _ q => XS.lload X9.here hx rfl (hb hby at_125) rfl  q) ?_
    show Rch p e below _ T9 (mkF m 127 #[.val (.long p1), .second, .val (.int p2), .val (.int (p2 &&& (3 : Int32))), .val (.long wd), .second, .val (.long ((((((((own_mark wd (0 : Int32)) ||| (own_mark wd (1 : Int32))) ||| (own_mark wd (2 : Int32))) ||| (own_mark wd (3 : Int32))) ||| (own_mark wd (4 : Int32))) ||| (own_mark wd (5 : Int32))) ||| (own_mark wd (6 : Int32))) ||| (own_mark wd (7 : Int32)))), .second] [(.long ((((((((own_mark wd (0 : Int32)) ||| (own_mark wd (1 : Int32))) ||| (own_mark wd (2 : Int32))) ||| (own_mark wd (3 : Int32))) ||| (own_mark wd (4 : Int32))) ||| (own_mark wd (5 : Int32))) ||| (own_mark wd (6 : Int32))) ||| (own_mark wd (7 : Int32)))), (.long (own_ndm wd))])
    refine Rch.go (fun _ q => XS.lcmp X9.here hx rfl (hb hby at_127) rfl q) ?_
    show Rch p e below _ T9 (mkF m 128 #[.val (.long p1), .second, .val (.int p2), .val (.int (p2 &&& (3 : Int32))), .val (.long wd), .second, .val (.long ((((((((own_mark wd (0 : Int32)) ||| (own_mark wd (1 : Int32))) ||| (own_mark wd (2 : Int32))) ||| (own_mark wd (3 : Int32))) ||| (own_mark wd (4 : Int32))) ||| (own_mark wd (5 : Int32))) ||| (own_mark wd (6 : Int32))) ||| (own_mark wd (7 : Int32)))), .second] [(.int (lcmpW (own_ndm wd) ((((((((own_mark wd (0 : Int32)) ||| (own_mark wd (1 : Int32))) ||| (own_mark wd (2 : Int32))) ||| (own_mark wd (3 : Int32))) ||| (own_mark wd (4 : Int32))) ||| (own_mark wd (5 : Int32))) ||| (own_mark wd (6 : Int32))) ||| (own_mark wd (7 : Int32)))))])
    refine Rch.go (fun _ q => XS.ifNo X9.here hx rfl (hb hby at_128) rfl ((if0 _ _).trans (teq ((lw_eq _ _).mpr (own_main wd))).2) q) ?_
    show Rch p e below _ T9 (mkF m 131 #[.val (.long p1), .second, .val (.int p2), .val (.int (p2 &&& (3 : Int32))), .val (.long wd), .second, .val (.long ((((((((own_mark wd (0 : Int32)) ||| (own_mark wd (1 : Int32))) ||| (own_mark wd (2 : Int32))) ||| (own_mark wd (3 : Int32))) ||| (own_mark wd (4 : Int32))) ||| (own_mark wd (5 : Int32))) ||| (own_mark wd (6 : Int32))) ||| (own_mark wd (7 : Int32)))), .second] [])
    refine Rch.go (fun _ q => XS.iconst X9.here hx rfl (hb hby at_131) q) ?_
    show Rch p e below _ T9 (mkF m 132 #[.val (.long p1), .second, .val (.int p2), .val (.int (p2 &&& (3 : Int32))), .val (.long wd), .second, .val (.long ((((((((own_mark wd (0 : Int32)) ||| (own_mark wd (1 : Int32))) ||| (own_mark wd (2 : Int32))) ||| (own_mark wd (3 : Int32))) ||| (own_mark wd (4 : Int32))) ||| (own_mark wd (5 : Int32))) ||| (own_mark wd (6 : Int32))) ||| (own_mark wd (7 : Int32)))), .second] [(.int (1 : Int32))])
    refine Rch.go (fun _ q => XS.goto X9.here hx rfl (pc0 := 132) (pc' := 136) rfl (hb hby at_132) (by decide) (by decide) q) ?_
    show Rch p e below _ T9 (mkF m 136 #[.val (.long p1), .second, .val (.int p2), .val (.int (p2 &&& (3 : Int32))), .val (.long wd), .second, .val (.long ((((((((own_mark wd (0 : Int32)) ||| (own_mark wd (1 : Int32))) ||| (own_mark wd (2 : Int32))) ||| (own_mark wd (3 : Int32))) ||| (own_mark wd (4 : Int32))) ||| (own_mark wd (5 : Int32))) ||| (own_mark wd (6 : Int32))) ||| (own_mark wd (7 : Int32)))), .second] [(.int (1 : Int32))])
    refine Rch.retZ X9 hx hlk Bd.returns (hb hby at_136) (by decide) (by decide) ?_
    unfold Qrm0
    exact ⟨rfl, N9⟩
  refine Rch.go (fun _ q => XS.iloadN X0.here hx rfl (hb hby at_0) rfl  q) ?_
  show Rch p e below _ s₁ (mkF m 1 #[.val (.long p1), .second, .val (.int p2), .unset, .unset, .unset, .unset, .unset] [(.int p2)])
  refine Rch.go (fun _ q => XS.iconst X0.here hx rfl (hb hby at_1) q) ?_
  show Rch p e below _ s₁ (mkF m 2 #[.val (.long p1), .second, .val (.int p2), .unset, .unset, .unset, .unset, .unset] [(.int (3 : Int32)), (.int p2)])
  refine Rch.go (fun _ q => XS.iand X0.here hx rfl (hb hby at_2) rfl q) ?_
  show Rch p e below _ s₁ (mkF m 3 #[.val (.long p1), .second, .val (.int p2), .unset, .unset, .unset, .unset, .unset] [(.int (p2 &&& (3 : Int32)))])
  refine Rch.go (fun _ q => XS.istoreN X0.here hx rfl (hb hby at_3) rfl (l' := #[.val (.long p1), .second, .val (.int p2), .val (.int (p2 &&& (3 : Int32))), .unset, .unset, .unset, .unset]) rfl q) ?_
  show Rch p e below _ s₁ (mkF m 4 #[.val (.long p1), .second, .val (.int p2), .val (.int (p2 &&& (3 : Int32))), .unset, .unset, .unset, .unset] [])
  refine Rch.go (fun _ q => XS.lloadN X0.here hx rfl (hb hby at_4) rfl  q) ?_
  show Rch p e below _ s₁ (mkF m 5 #[.val (.long p1), .second, .val (.int p2), .val (.int (p2 &&& (3 : Int32))), .unset, .unset, .unset, .unset] [(.long p1)])
  refine Rch.go (fun _ q => XS.lstore X0.here hx rfl (hb hby at_5) rfl (l' := #[.val (.long p1), .second, .val (.int p2), .val (.int (p2 &&& (3 : Int32))), .val (.long p1), .second, .unset, .unset]) rfl q) ?_
  show Rch p e below _ s₁ (mkF m 7 #[.val (.long p1), .second, .val (.int p2), .val (.int (p2 &&& (3 : Int32))), .val (.long p1), .second, .unset, .unset] [])
  refine Rch.go (fun _ q => XS.iloadN X0.here hx rfl (hb hby at_7) rfl  q) ?_
  show Rch p e below _ s₁ (mkF m 8 #[.val (.long p1), .second, .val (.int p2), .val (.int (p2 &&& (3 : Int32))), .val (.long p1), .second, .unset, .unset] [(.int (p2 &&& (3 : Int32)))])
  refine Rch.go (fun _ q => XS.iconst X0.here hx rfl (hb hby at_8) q) ?_
  show Rch p e below _ s₁ (mkF m 9 #[.val (.long p1), .second, .val (.int p2), .val (.int (p2 &&& (3 : Int32))), .val (.long p1), .second, .unset, .unset] [(.int (1 : Int32)), (.int (p2 &&& (3 : Int32)))])
  by_cases hc9 : (p2 &&& (3 : Int32)) = (1 : Int32)
  · skip
    refine Rch.go (fun _ q => XS.icmpNo X0.here hx rfl (hb hby at_9) rfl (teq hc9).2 q) ?_
    show Rch p e below _ s₁ (mkF m 12 #[.val (.long p1), .second, .val (.int p2), .val (.int (p2 &&& (3 : Int32))), .val (.long p1), .second, .unset, .unset] [])
    refine Rch.go (fun _ q => XS.lloadN X0.here hx rfl (hb hby at_12) rfl  q) ?_
    show Rch p e below _ s₁ (mkF m 13 #[.val (.long p1), .second, .val (.int p2), .val (.int (p2 &&& (3 : Int32))), .val (.long p1), .second, .unset, .unset] [(.long p1)])
    refine Rch.go (fun _ q => X0.ldc2J hx (own := "com/example/wary_logon/warylogon/fix/WireBytesNonDigitMarksPinLaw") hown (mvT hZ (hw _ (List.mem_of_getElem? (i := 17) rfl))) rfl (hb hby at_13) q) ?_
    show Rch p e below _ s₁ (mkF m 16 #[.val (.long p1), .second, .val (.int p2), .val (.int (p2 &&& (3 : Int32))), .val (.long p1), .second, .unset, .unset] [(.long (1085102592571150095 : Int64)), (.long p1)])
    refine Rch.go (fun _ q => XS.land X0.here hx rfl (hb hby at_16) rfl q) ?_
    show Rch p e below _ s₁ (mkF m 17 #[.val (.long p1), .second, .val (.int p2), .val (.int (p2 &&& (3 : Int32))), .val (.long p1), .second, .unset, .unset] [(.long (p1 &&& (1085102592571150095 : Int64)))])
    refine Rch.go (fun _ q => X0.ldc2J hx (own := "com/example/wary_logon/warylogon/fix/WireBytesNonDigitMarksPinLaw") hown (mvT hZ (hw _ (List.mem_of_getElem? (i := 19) rfl))) rfl (hb hby at_17) q) ?_
    show Rch p e below _ s₁ (mkF m 20 #[.val (.long p1), .second, .val (.int p2), .val (.int (p2 &&& (3 : Int32))), .val (.long p1), .second, .unset, .unset] [(.long (3472328296227680304 : Int64)), (.long (p1 &&& (1085102592571150095 : Int64)))])
    refine Rch.go (fun _ q => XS.lor X0.here hx rfl (hb hby at_20) rfl q) ?_
    show Rch p e below _ s₁ (mkF m 21 #[.val (.long p1), .second, .val (.int p2), .val (.int (p2 &&& (3 : Int32))), .val (.long p1), .second, .unset, .unset] [(.long ((p1 &&& (1085102592571150095 : Int64)) ||| (3472328296227680304 : Int64)))])
    refine Rch.go (fun _ q => XS.lstore X0.here hx rfl (hb hby at_21) rfl (l' := #[.val (.long p1), .second, .val (.int p2), .val (.int (p2 &&& (3 : Int32))), .val (.long ((p1 &&& (1085102592571150095 : Int64)) ||| (3472328296227680304 : Int64))), .second, .unset, .unset]) rfl q) ?_
    show Rch p e below _ s₁ (mkF m 23 #[.val (.long p1), .second, .val (.int p2), .val (.int (p2 &&& (3 : Int32))), .val (.long ((p1 &&& (1085102592571150095 : Int64)) ||| (3472328296227680304 : Int64))), .second, .unset, .unset] [])
    refine Rch.go (fun _ q => XS.goto X0.here hx rfl (pc0 := 23) (pc' := 61) rfl (hb hby at_23) (by decide) (by decide) q) ?_
    show Rch p e below _ s₁ (mkF m 61 #[.val (.long p1), .second, .val (.int p2), .val (.int (p2 &&& (3 : Int32))), .val (.long ((p1 &&& (1085102592571150095 : Int64)) ||| (3472328296227680304 : Int64))), .second, .unset, .unset] [])
    exact tail _
  · skip
    refine Rch.go (fun _ q => XS.icmpYes X0.here hx rfl (pc0 := 9) (pc' := 26) rfl (hb hby at_9) rfl (feq hc9).2 (by decide) (by decide) q) ?_
    show Rch p e below _ s₁ (mkF m 26 #[.val (.long p1), .second, .val (.int p2), .val (.int (p2 &&& (3 : Int32))), .val (.long p1), .second, .unset, .unset] [])
    refine Rch.go (fun _ q => XS.iloadN X0.here hx rfl (hb hby at_26) rfl  q) ?_
    show Rch p e below _ s₁ (mkF m 27 #[.val (.long p1), .second, .val (.int p2), .val (.int (p2 &&& (3 : Int32))), .val (.long p1), .second, .unset, .unset] [(.int (p2 &&& (3 : Int32)))])
    refine Rch.go (fun _ q => XS.iconst X0.here hx rfl (hb hby at_27) q) ?_
    show Rch p e below _ s₁ (mkF m 28 #[.val (.long p1), .second, .val (.int p2), .val (.int (p2 &&& (3 : Int32))), .val (.long p1), .second, .unset, .unset] [(.int (2 : Int32)), (.int (p2 &&& (3 : Int32)))])
    by_cases hc28 : (p2 &&& (3 : Int32)) = (2 : Int32)
    · skip
      refine Rch.go (fun _ q => XS.icmpNo X0.here hx rfl (hb hby at_28) rfl (teq hc28).2 q) ?_
      show Rch p e below _ s₁ (mkF m 31 #[.val (.long p1), .second, .val (.int p2), .val (.int (p2 &&& (3 : Int32))), .val (.long p1), .second, .unset, .unset] [])
      refine Rch.go (fun _ q => XS.lloadN X0.here hx rfl (hb hby at_31) rfl  q) ?_
      show Rch p e below _ s₁ (mkF m 32 #[.val (.long p1), .second, .val (.int p2), .val (.int (p2 &&& (3 : Int32))), .val (.long p1), .second, .unset, .unset] [(.long p1)])
      refine Rch.go (fun _ q => X0.ldc2J hx (own := "com/example/wary_logon/warylogon/fix/WireBytesNonDigitMarksPinLaw") hown (mvT hZ (hw _ (List.mem_of_getElem? (i := 0) rfl))) rfl (hb hby at_32) q) ?_
      show Rch p e below _ s₁ (mkF m 35 #[.val (.long p1), .second, .val (.int p2), .val (.int (p2 &&& (3 : Int32))), .val (.long p1), .second, .unset, .unset] [(.long (2242545357980376863 : Int64)), (.long p1)])
      refine Rch.go (fun _ q => XS.land X0.here hx rfl (hb hby at_35) rfl q) ?_
      show Rch p e below _ s₁ (mkF m 36 #[.val (.long p1), .second, .val (.int p2), .val (.int (p2 &&& (3 : Int32))), .val (.long p1), .second, .unset, .unset] [(.long (p1 &&& (2242545357980376863 : Int64)))])
      refine Rch.go (fun _ q => X0.ldc2J hx (own := "com/example/wary_logon/warylogon/fix/WireBytesNonDigitMarksPinLaw") hown (mvT hZ (hw _ (List.mem_of_getElem? (i := 1) rfl))) rfl (hb hby at_36) q) ?_
      show Rch p e below _ s₁ (mkF m 39 #[.val (.long p1), .second, .val (.int p2), .val (.int (p2 &&& (3 : Int32))), .val (.long p1), .second, .unset, .unset] [(.long (2314885530818453536 : Int64)), (.long (p1 &&& (2242545357980376863 : Int64)))])
      refine Rch.go (fun _ q => XS.lor X0.here hx rfl (hb hby at_39) rfl q) ?_
      show Rch p e below _ s₁ (mkF m 40 #[.val (.long p1), .second, .val (.int p2), .val (.int (p2 &&& (3 : Int32))), .val (.long p1), .second, .unset, .unset] [(.long ((p1 &&& (2242545357980376863 : Int64)) ||| (2314885530818453536 : Int64)))])
      refine Rch.go (fun _ q => XS.lstore X0.here hx rfl (hb hby at_40) rfl (l' := #[.val (.long p1), .second, .val (.int p2), .val (.int (p2 &&& (3 : Int32))), .val (.long ((p1 &&& (2242545357980376863 : Int64)) ||| (2314885530818453536 : Int64))), .second, .unset, .unset]) rfl q) ?_
      show Rch p e below _ s₁ (mkF m 42 #[.val (.long p1), .second, .val (.int p2), .val (.int (p2 &&& (3 : Int32))), .val (.long ((p1 &&& (2242545357980376863 : Int64)) ||| (2314885530818453536 : Int64))), .second, .unset, .unset] [])
      refine Rch.go (fun _ q => XS.goto X0.here hx rfl (pc0 := 42) (pc' := 61) rfl (hb hby at_42) (by decide) (by decide) q) ?_
      show Rch p e below _ s₁ (mkF m 61 #[.val (.long p1), .second, .val (.int p2), .val (.int (p2 &&& (3 : Int32))), .val (.long ((p1 &&& (2242545357980376863 : Int64)) ||| (2314885530818453536 : Int64))), .second, .unset, .unset] [])
      exact tail _
    · skip
      refine Rch.go (fun _ q => XS.icmpYes X0.here hx rfl (pc0 := 28) (pc' := 45) rfl (hb hby at_28) rfl (feq hc28).2 (by decide) (by decide) q) ?_
      show Rch p e below _ s₁ (mkF m 45 #[.val (.long p1), .second, .val (.int p2), .val (.int (p2 &&& (3 : Int32))), .val (.long p1), .second, .unset, .unset] [])
      refine Rch.go (fun _ q => XS.iloadN X0.here hx rfl (hb hby at_45) rfl  q) ?_
      show Rch p e below _ s₁ (mkF m 46 #[.val (.long p1), .second, .val (.int p2), .val (.int (p2 &&& (3 : Int32))), .val (.long p1), .second, .unset, .unset] [(.int (p2 &&& (3 : Int32)))])
      refine Rch.go (fun _ q => XS.iconst X0.here hx rfl (hb hby at_46) q) ?_
      show Rch p e below _ s₁ (mkF m 47 #[.val (.long p1), .second, .val (.int p2), .val (.int (p2 &&& (3 : Int32))), .val (.long p1), .second, .unset, .unset] [(.int (3 : Int32)), (.int (p2 &&& (3 : Int32)))])
      by_cases hc47 : (p2 &&& (3 : Int32)) = (3 : Int32)
      · skip
        refine Rch.go (fun _ q => XS.icmpNo X0.here hx rfl (hb hby at_47) rfl (teq hc47).2 q) ?_
        show Rch p e below _ s₁ (mkF m 50 #[.val (.long p1), .second, .val (.int p2), .val (.int (p2 &&& (3 : Int32))), .val (.long p1), .second, .unset, .unset] [])
        refine Rch.go (fun _ q => XS.lloadN X0.here hx rfl (hb hby at_50) rfl  q) ?_
        show Rch p e below _ s₁ (mkF m 51 #[.val (.long p1), .second, .val (.int p2), .val (.int (p2 &&& (3 : Int32))), .val (.long p1), .second, .unset, .unset] [(.long p1)])
        refine Rch.go (fun _ q => X0.ldc2J hx (own := "com/example/wary_logon/warylogon/fix/WireBytesNonDigitMarksPinLaw") hown (mvT hZ (hw _ (List.mem_of_getElem? (i := 17) rfl))) rfl (hb hby at_51) q) ?_
        show Rch p e below _ s₁ (mkF m 54 #[.val (.long p1), .second, .val (.int p2), .val (.int (p2 &&& (3 : Int32))), .val (.long p1), .second, .unset, .unset] [(.long (1085102592571150095 : Int64)), (.long p1)])
        refine Rch.go (fun _ q => XS.land X0.here hx rfl (hb hby at_54) rfl q) ?_
        show Rch p e below _ s₁ (mkF m 55 #[.val (.long p1), .second, .val (.int p2), .val (.int (p2 &&& (3 : Int32))), .val (.long p1), .second, .unset, .unset] [(.long (p1 &&& (1085102592571150095 : Int64)))])
        refine Rch.go (fun _ q => X0.ldc2J hx (own := "com/example/wary_logon/warylogon/fix/WireBytesNonDigitMarksPinLaw") hown (mvT hZ (hw _ (List.mem_of_getElem? (i := 18) rfl))) rfl (hb hby at_55) q) ?_
        show Rch p e below _ s₁ (mkF m 58 #[.val (.long p1), .second, .val (.int p2), .val (.int (p2 &&& (3 : Int32))), .val (.long p1), .second, .unset, .unset] [(.long (-5714873654208057168 : Int64)), (.long (p1 &&& (1085102592571150095 : Int64)))])
        refine Rch.go (fun _ q => XS.lor X0.here hx rfl (hb hby at_58) rfl q) ?_
        show Rch p e below _ s₁ (mkF m 59 #[.val (.long p1), .second, .val (.int p2), .val (.int (p2 &&& (3 : Int32))), .val (.long p1), .second, .unset, .unset] [(.long ((p1 &&& (1085102592571150095 : Int64)) ||| (-5714873654208057168 : Int64)))])
        refine Rch.go (fun _ q => XS.lstore X0.here hx rfl (hb hby at_59) rfl (l' := #[.val (.long p1), .second, .val (.int p2), .val (.int (p2 &&& (3 : Int32))), .val (.long ((p1 &&& (1085102592571150095 : Int64)) ||| (-5714873654208057168 : Int64))), .second, .unset, .unset]) rfl q) ?_
        show Rch p e below _ s₁ (mkF m 61 #[.val (.long p1), .second, .val (.int p2), .val (.int (p2 &&& (3 : Int32))), .val (.long ((p1 &&& (1085102592571150095 : Int64)) ||| (-5714873654208057168 : Int64))), .second, .unset, .unset] [])
        exact tail _
      · skip
        refine Rch.go (fun _ q => XS.icmpYes X0.here hx rfl (pc0 := 47) (pc' := 61) rfl (hb hby at_47) rfl (feq hc47).2 (by decide) (by decide) q) ?_
        show Rch p e below _ s₁ (mkF m 61 #[.val (.long p1), .second, .val (.int p2), .val (.int (p2 &&& (3 : Int32))), .val (.long p1), .second, .unset, .unset] [])
        exact tail _
set_option maxRecDepth 65536 in
set_option maxHeartbeats 40000000 in
theorem comes_1 {Post : Tables → Env → Array Value → State → Outcome → State → Prop} (hpost : ∀ tb e args s v u, (limb_1_1.after args s (.returned v) u = true ∧ limb_1_2.after args s (.returned v) u = true ∧ True) → FrameEnd s (.returned v) u (Jvm.fieldLocs frame_1_writes args s ++ Jvm.arrayLocs frame_1_arrays args s ++ Jvm.staticLocs frame_1_statics s) 0 0 → Post tb e args s (.returned v) u) :
    ArmFor flags0 classFile x code maxLocals ret World_1 tables_1 room_1 Calls_1 rest_1 Pre_1 Post := by
  intro l hfl _ _ p e ha hc hk s m args below hf hA hF happ hP
  obtain ⟨hcalls, hrest, hpre⟩ := hP
  obtain ⟨-, -, -, hnamed, -, -, -, hat⟩ := (Spec.applies_iff hf).mp happ
  obtain ⟨hg, hn⟩ := and_e (Cond.before_iff.mp (show (Jvm.Cond.and given_1 narrow_1).before args s = true from hpre))
  obtain ⟨hcnt, hr0⟩ := and_e hg
  obtain ⟨w0, w1, rfl⟩ : ∃ w0 w1 : Value, args = #[w0, w1] := by
    have hs : args.size = 2 := by simpa [Cond.value, given_1] using hcnt
    obtain ⟨L⟩ := args
    match L, hs with
    | [w0, w1], _ => exact ⟨w0, w1, rfl⟩
  have hw := fun d (hd : d ∈ tables_1) => atoms_spec (ws := Jvm.Cond.code x code maxLocals ret :: tables_1) hat d (List.mem_cons_of_mem _ hd)
  obtain ⟨ha0, hr1⟩ := and_e hr0
  obtain ⟨i0, e0⟩ := isL_v ha0
  obtain rfl : w0 = (.long i0) := Option.some.inj e0
  obtain ⟨i1, e1⟩ := is_v hr1
  obtain rfl : w1 = (.int i1) := Option.some.inj e1
  obtain ⟨n, o, h1, h2, h3, _, L, rfl, ⟨rfl, N⟩, hq⟩ := rm0 l s _ hw tables_1 i0 i1 s.heap s.heap.size (Nat.le_refl _) p e ha hc hk s m _ below hf ((Spec.applies_iff_loose hf).mp happ).1 ⟨rfl, State.Warmed39.refl s, rfl⟩ trivial
  refine ⟨n, _, h1, h2, h3, hpost _ _ _ _ _ _ ⟨Cond.after_iff.mpr rfl, Cond.after_iff.mpr (eq_i res_at (Term.int_eval (1)) rfl), trivial⟩ ⟨hq.1, hq.2.1, (hq.2.2.sift fun y hy => Or.inr (N y hy)).mono (by decide) (by decide)⟩⟩
theorem main_1_1 : Claimed_1_1 := comes_1 fun _ _ _ _ _ _ h hF => ⟨h.1, hF⟩
theorem main_1_2 : Claimed_1_2 := comes_1 fun _ _ _ _ _ _ h hF => ⟨h.2.1, hF⟩
end Jvm.Pilot.@@N@@
namespace Jvm.Pilot.@@N@@
open Jvm Jvm.ClassFile Sem Op Lib Jvm.Free Jvm.Stand Jvm.Pilot.@@N@@.Jvm.D
/-! MADE BY PROGRAM (witnessworld.py) out of the Statement's table words and the real class files: 9 classes; the members and pool entries that the words name. The judged class is class 1, her method 2. -/
namespace start1
open Jvm.ClassFile
def u (s : String) : CpInfo := .utf8 (stringToUtf16 s)
/-- a pool by its gaps: so many unusable entries, then the entry; so many at the end -/
def gap : Nat → List CpInfo → List CpInfo
  | 0, r => r
  | n + 1, r => .unusable :: gap n r
def poolList (es : List (Nat × CpInfo)) (last : Nat) : List CpInfo := es.foldr (fun e r => gap e.1 (e.2 :: r)) (gap last [])
def pool (es : List (Nat × CpInfo)) (last : Nat) : Array CpInfo := ⟨poolList es last⟩
def fileOf (pool : Array CpInfo) (this : Nat) (attrs : Array Attribute := #[]) (ms : Array MethodInfo := #[]) (fl : Nat := 33) (sup : Nat := 0) (ifs : Array Nat := #[]) (fds : Array FieldInfo := #[]) : ClassFile where
  minorVersion := 0
  majorVersion := 65
  constantPool := pool
  accessFlags := fl
  thisClass := this
  superClass := sup
  interfaces := ifs
  fields := fds
  methods := ms
  attributes := attrs
def plain (name : String) (sup : Option ClassId) : Class where
  name := name
  kind := .ordinary
  loader := none
  accessFlags := 33
  super := sup
  interfaces := #[]
  cf := none
  fields := #[]
  methods := #[]
  instanceTypes := #[]
  staticTypes := #[]
  resolved := #[]
  callSites := []
  init := .initialized
  statics := none
  mirror := none

def pool0 : Array CpInfo := pool [(5, u "<init>"), (0, u "()V"), (1, .class_ 10), (1, u "java/lang/Object")] 113

def k0m0 : Method := { name := "<init>", desc := "()V", sig := { parameters := [], returnType := none }, accessFlags := 1, code := none }
/-- java/lang/Object -/
def k0 : Class := { plain "java/lang/Object" none with
  accessFlags := 33
  interfaces := #[]
  cf := some (fileOf pool0 8 #[] #[{ accessFlags := 1, nameIndex := 5, descriptorIndex := 6, attributes := #[] }] 33 0 #[] #[])
  fields := #[]
  methods := #[k0m0]
  instanceTypes := #[]
  staticTypes := #[]
  resolved := Array.replicate 124 none
  statics := none }

def pool1 : Array CpInfo := pool [(2, .class_ 4), (1, u "java/lang/Object"), (0, u "<init>"), (0, u "()V"), (0, .long 255), (1, .long 128), (1, .long 1085102592571150095), (1, .long 3472328296227680304), (1, .long 2242545357980376863), (1, .long 2314885530818453536), (1, .long 12731870419501494448), (1, .methodref 22 23), (0, .class_ 24), (0, .nameAndType 25 26), (0, u "com/example/wary_logon/warylogon/fix/WireBytesNonDigitMarksPinLaw"), (0, u "mark"), (0, u "(JI)J"), (0, .methodref 28 29), (0, .class_ 30), (0, .nameAndType 31 32), (0, u "com/example/wary_logon/warylogon/fix/WireBytes"), (0, u "nonDigitMarks"), (0, u "(J)J"), (3, u "law"), (0, u "(JI)Z")] 2

def k1m0 : Method := { name := "<init>", desc := "()V", sig := { parameters := [], returnType := none }, accessFlags := 2, code := none }
def k1c1 : Code := { maxStack := 4, maxLocals := 4, code := method_2_code, exceptionTable := #[], attributes := #[] }
def k1m1 : Method := { name := "mark", desc := "(JI)J", sig := { parameters := [.long, .int], returnType := some .long }, accessFlags := 10, code := some k1c1 }
def k1c2 : Code := { maxStack := 5, maxLocals := 8, code := code, exceptionTable := #[], attributes := #[] }
def k1m2 : Method := { name := "law", desc := "(JI)Z", sig := { parameters := [.long, .int], returnType := some .boolean }, accessFlags := 9, code := some k1c2 }
/-- com/example/wary_logon/warylogon/fix/WireBytesNonDigitMarksPinLaw -/
def k1 : Class := { plain "com/example/wary_logon/warylogon/fix/WireBytesNonDigitMarksPinLaw" (some 0) with
  accessFlags := 49
  interfaces := #[]
  cf := some (fileOf pool1 22 #[] #[{ accessFlags := 2, nameIndex := 5, descriptorIndex := 6, attributes := #[] }, { accessFlags := 10, nameIndex := 25, descriptorIndex := 26, attributes := #[] }, { accessFlags := 9, nameIndex := 36, descriptorIndex := 37, attributes := #[] }] 49 2 #[] #[])
  fields := #[]
  methods := #[k1m0, k1m1, k1m2]
  instanceTypes := #[]
  staticTypes := #[]
  resolved := Array.replicate 40 none
  statics := none }

def pool2 : Array CpInfo := pool [(2, .class_ 4), (1, u "java/lang/Object"), (0, u "<init>"), (0, u "()V"), (3, .class_ 12), (1, u "com/example/wary_logon/warylogon/fix/WireBytes"), (0, u "WORDS"), (0, u "Ljava/lang/invoke/VarHandle;"), (8, .long 18446744073709551615), (1, .long 9259542123273814144), (9, .long 9187201950435737471), (1, .long 5787213827046133840), (1, .long 5063812098665367110), (35, u "ONES"), (0, u "J"), (1, u "TOP_BITS"), (0, u "EVEN_BYTES"), (0, u "EVEN_LANES"), (0, u "WORDS_PER_LANE"), (0, u "I"), (1, u "LOW_SEVEN_BITS"), (0, u "FROM_ZERO"), (0, u "PAST_NINE"), (0, u "ZEROS"), (9, u "(J)J"), (0, u "nonDigitMarks")] 9

def k2m0 : Method := { name := "<init>", desc := "()V", sig := { parameters := [], returnType := none }, accessFlags := 2, code := none }
def k2c1 : Code := { maxStack := 6, maxLocals := 4, code := prog_31_method_6_code, exceptionTable := #[], attributes := #[] }
def k2m1 : Method := { name := "nonDigitMarks", desc := "(J)J", sig := { parameters := [.long], returnType := some .long }, accessFlags := 8, code := some k2c1 }
/-- com/example/wary_logon/warylogon/fix/WireBytes -/
def k2 : Class := { plain "com/example/wary_logon/warylogon/fix/WireBytes" (some 0) with
  accessFlags := 48
  interfaces := #[]
  cf := some (fileOf pool2 10 #[] #[{ accessFlags := 2, nameIndex := 5, descriptorIndex := 6, attributes := #[] }, { accessFlags := 8, nameIndex := 98, descriptorIndex := 97, attributes := #[] }] 48 2 #[] #[{ accessFlags := 26, nameIndex := 13, descriptorIndex := 14, attributes := #[] }, { accessFlags := 26, nameIndex := 75, descriptorIndex := 76, attributes := #[] }, { accessFlags := 26, nameIndex := 78, descriptorIndex := 76, attributes := #[] }, { accessFlags := 26, nameIndex := 79, descriptorIndex := 76, attributes := #[] }, { accessFlags := 26, nameIndex := 80, descriptorIndex := 76, attributes := #[] }, { accessFlags := 26, nameIndex := 81, descriptorIndex := 82, attributes := #[] }, { accessFlags := 26, nameIndex := 84, descriptorIndex := 76, attributes := #[] }, { accessFlags := 26, nameIndex := 85, descriptorIndex := 76, attributes := #[] }, { accessFlags := 26, nameIndex := 86, descriptorIndex := 76, attributes := #[] }, { accessFlags := 26, nameIndex := 87, descriptorIndex := 76, attributes := #[] }])
  fields := #[{ name := "WORDS", type := (.object "java/lang/invoke/VarHandle"), accessFlags := 26, slot := 0, constantValue := 0 }, { name := "ONES", type := .long, accessFlags := 26, slot := 1, constantValue := 0 }, { name := "TOP_BITS", type := .long, accessFlags := 26, slot := 2, constantValue := 0 }, { name := "EVEN_BYTES", type := .long, accessFlags := 26, slot := 3, constantValue := 0 }, { name := "EVEN_LANES", type := .long, accessFlags := 26, slot := 4, constantValue := 0 }, { name := "WORDS_PER_LANE", type := .int, accessFlags := 26, slot := 5, constantValue := 0 }, { name := "LOW_SEVEN_BITS", type := .long, accessFlags := 26, slot := 6, constantValue := 0 }, { name := "FROM_ZERO", type := .long, accessFlags := 26, slot := 7, constantValue := 0 }, { name := "PAST_NINE", type := .long, accessFlags := 26, slot := 8, constantValue := 0 }, { name := "ZEROS", type := .long, accessFlags := 26, slot := 9, constantValue := 0 }]
  methods := #[k2m0, k2m1]
  instanceTypes := #[]
  staticTypes := #[(.object "java/lang/invoke/VarHandle"), .long, .long, .long, .long, .int, .long, .long, .long, .long]
  resolved := Array.replicate 108 none
  statics := none }

def pool3 : Array CpInfo := pool [(1, u "java/lang/Cloneable"), (0, .class_ 1), (0, u "java/lang/Object"), (0, .class_ 3)] 3

/-- java/lang/Cloneable -/
def k3 : Class := { plain "java/lang/Cloneable" (some 0) with
  accessFlags := 1537
  interfaces := #[]
  cf := some (fileOf pool3 2 #[] #[] 1537 4 #[] #[])
  fields := #[]
  methods := #[]
  instanceTypes := #[]
  staticTypes := #[]
  resolved := Array.replicate 8 none
  statics := none }

def pool4 : Array CpInfo := pool [(1, u "java/io/Serializable"), (0, .class_ 1), (0, u "java/lang/Object"), (0, .class_ 3)] 3

/-- java/io/Serializable -/
def k4 : Class := { plain "java/io/Serializable" (some 0) with
  accessFlags := 1537
  interfaces := #[]
  cf := some (fileOf pool4 2 #[] #[] 1537 4 #[] #[])
  fields := #[]
  methods := #[]
  instanceTypes := #[]
  staticTypes := #[]
  resolved := Array.replicate 8 none
  statics := none }

/-- the primitive byte -/
def k5 : Class := { plain "byte" none with kind := .primitive 'B', accessFlags := 0x411 }
/-- [B -/
def k6 : Class := { plain "[B" (some 0) with kind := .array 5 .byte, interfaces := #[3, 4], accessFlags := 1041 }

/-- the primitive int -/
def k7 : Class := { plain "int" none with kind := .primitive 'I', accessFlags := 0x411 }
/-- [I -/
def k8 : Class := { plain "[I" (some 0) with kind := .array 7 .int, interfaces := #[3, 4], accessFlags := 1041 }

def heap : Heap := #[]
def classes : Array Class := #[k0, k1, k2, k3, k4, k5, k6, k7, k8]
def interned : List (Array UInt16 × Addr) := []
def slotsUsed : Nat := 0
def theMethod : MethodId := ⟨1, 2⟩
def args0 : Array Value := #[.long 5, .int 2]
def aboutOver (below : List Frame) : State where
  vm := { classes := classes, interned := interned.toArray }
  heap := heap
  slotsUsed := slotsUsed
  threads := #[{ frames := .invoking theMethod args0 :: below }]
def below0 : List Frame := [.native { method := ⟨0, 0⟩, args := #[] }]
def about1 : State := aboutOver below0
def p0 : Program := .bare "" "" ""
def e0 : Env := launch0.env 0 0 0
theorem w_frames : about1.frames = Frame.invoking theMethod args0 :: below0 := rfl
set_option maxRecDepth 65536 in
theorem w_args : argsFit about1.vm theMethod args0 = true := by decide +kernel
set_option maxRecDepth 65536 in
theorem w_heap : heapFits about1 = true := by decide +kernel
set_option maxRecDepth 65536 in
theorem w_runnable : about1.curStatus? = some .runnable := by decide +kernel
set_option maxRecDepth 65536 in
theorem w_alone : about1.alone = true := by decide +kernel
set_option maxRecDepth 65536 in
theorem w_named : about1.methodNamed? x = some theMethod := by decide +kernel
set_option maxRecDepth 65536 in
theorem w_hears : about1.hears theMethod below0 = true := by decide +kernel
set_option maxRecDepth 65536 in
theorem w_ripe : about1.ripe theMethod args0 below0 = true := by decide +kernel
theorem w_running : about1.status = .running := rfl
set_option maxRecDepth 65536 in
theorem w_room : about1.hasRoom e0.platform room_1 = true :=
  launch0.hasRoom_least _ room_1 (by decide +kernel) (by decide +kernel) (by decide +kernel) (by decide +kernel) (by decide +kernel) (by decide +kernel)
theorem allAtoms_all (ts : List Jvm.Cond) (a : Array Jvm.Value) (st : Jvm.State) : (allAtoms ts).before a st = ts.all (fun c => c.before a st) := by
  induction ts with
  | nil => rfl
  | cons c t ih =>
    show (Jvm.Cond.and c (allAtoms t)).before a st = _
    rw [Jvm.Cond.before_and, ih, List.all_cons]
def words1 : List Jvm.Cond := Jvm.Cond.code x code maxLocals ret :: tables_1
/-- a 'code' word, met by the world's own term for the bytes: nothing is compared byte by byte -/
theorem code_word {y : MethodName} {bytes : ByteArray} {mx : Nat} {rt : Option FieldType} {a : Array Value} {s : State} {m : MethodId} {meth : Method} {c : Code} (h1 : s.methodNamed? y = some m) (h2 : s.vm.method? m = some meth) (h3 : meth.code = some c) (h4 : c.code = bytes)
    (h5 : (c.maxLocals == mx && c.exceptionTable.isEmpty && decide (c.maxStack ≤ mostOperands) && decide (meth.sig.returnType = rt) && !meth.locks && decide (parseMethodDescriptor y.desc = some meth.sig)) = true) : (Jvm.Cond.code y bytes mx rt).before a s = true := by
  simp only [Bool.and_eq_true, beq_iff_eq, Bool.not_eq_true', decide_eq_true_eq] at h5
  obtain ⟨⟨⟨⟨⟨g1, g2⟩, g3⟩, g4⟩, g5⟩, g6⟩ := h5
  simp [Cond.before, Cond.holds, Cond.value, h1, h2, h3, h4, g1, g2, g3, g4, g5, g6]
def isCode : Jvm.Cond → Bool
  | .code _ _ _ _ => true
  | _ => false
theorem all_split {L : List Jvm.Cond} {P : Jvm.Cond → Bool} (h1 : L.all (fun c => isCode c || P c) = true) (h2 : ∀ c ∈ L.filter isCode, P c = true) : L.all P = true := by
  refine List.all_eq_true.mpr fun c hc => ?_
  have h := List.all_eq_true.mp h1 c hc
  rcases Bool.eq_false_or_eq_true (isCode c) with hi | hi
  · exact h2 c (List.mem_filter.mpr ⟨hc, hi⟩)
  · simpa [hi] using h
set_option maxRecDepth 65536 in
theorem w_c0 : (Jvm.Cond.code x code maxLocals ret).before args0 about1 = true := code_word (m := ⟨1, 2⟩) (meth := k1m2) (c := k1c2) (by decide +kernel) rfl rfl rfl (by decide +kernel)
set_option maxRecDepth 65536 in
theorem w_c1 : (Jvm.Cond.code ({ cls := "com/example/wary_logon/warylogon/fix/WireBytesNonDigitMarksPinLaw", name := "mark", desc := "(JI)J" } : Jvm.MethodName) method_2_code (4 : Nat) (Option.some Jvm.ClassFile.FieldType.long)).before args0 about1 = true := code_word (m := ⟨1, 1⟩) (meth := k1m1) (c := k1c1) (by decide +kernel) rfl rfl rfl (by decide +kernel)
set_option maxRecDepth 65536 in
theorem w_c2 : (Jvm.Cond.code ({ cls := "com/example/wary_logon/warylogon/fix/WireBytes", name := "nonDigitMarks", desc := "(J)J" } : Jvm.MethodName) prog_31_method_6_code (4 : Nat) (Option.some Jvm.ClassFile.FieldType.long)).before args0 about1 = true := code_word (m := ⟨2, 1⟩) (meth := k2m1) (c := k2c1) (by decide +kernel) rfl rfl rfl (by decide +kernel)
def codes1 : List Jvm.Cond := [Jvm.Cond.code x code maxLocals ret, Jvm.Cond.code ({ cls := "com/example/wary_logon/warylogon/fix/WireBytesNonDigitMarksPinLaw", name := "mark", desc := "(JI)J" } : Jvm.MethodName) method_2_code (4 : Nat) (Option.some Jvm.ClassFile.FieldType.long), Jvm.Cond.code ({ cls := "com/example/wary_logon/warylogon/fix/WireBytes", name := "nonDigitMarks", desc := "(J)J" } : Jvm.MethodName) prog_31_method_6_code (4 : Nat) (Option.some Jvm.ClassFile.FieldType.long)]
set_option maxRecDepth 65536 in
theorem codes_eq : words1.filter isCode = codes1 := rfl
theorem w_codes : ∀ c ∈ words1.filter isCode, c.before args0 about1 = true := by
  rw [codes_eq]
  intro c hc
  simp only [codes1, List.mem_cons, List.not_mem_nil, or_false] at hc
  rcases hc with rfl | rfl | rfl
  · exact w_c0
  · exact w_c1
  · exact w_c2
set_option maxRecDepth 65536 in
theorem w_t1 : words1.all (fun c => isCode c || c.before args0 about1) = true := by decide +kernel
theorem w_tables : (allAtoms (Jvm.Cond.code x code maxLocals ret :: tables_1)).before args0 about1 = true := by
  rw [allAtoms_all]
  show words1.all (fun c => c.before args0 about1) = true
  refine all_split ?_ w_codes
  rw [w_t1]
set_option maxRecDepth 65536 in
theorem w_case : (Jvm.Cond.and given_1 narrow_1).before args0 about1 = true := by decide +kernel
theorem w_applies : (headSpec (Jvm.Cond.code x code maxLocals ret :: tables_1) room_1).applies x e0.platform about1 = true :=
  (Spec.applies_iff w_frames).mpr ⟨w_running, w_runnable, w_alone, w_named, w_hears, w_ripe, w_room, w_tables⟩
theorem atStart : AtStart classFile x code maxLocals ret World_1 tables_1 room_1 Calls_1 rest_1 Pre_1 launch0 p0 e0 about1 theMethod args0 below0 :=
  ⟨lists_1, trivial, launch0.admits_env _ _ _, launch0.least_env, fairChoices_fair.cas, fairChoices_fair.clock, w_frames, w_args, w_heap, w_applies, trivial, trivial, w_case⟩
end start1
theorem witness_1 : WitnessClaimed_1 := ⟨start1.p0, start1.e0, start1.about1, start1.theMethod, start1.args0, start1.below0, start1.atStart⟩
end Jvm.Pilot.@@N@@
