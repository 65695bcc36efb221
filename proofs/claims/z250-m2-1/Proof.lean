import JvmDerived
import JvmDerived.Pilot.@@N@@Statement
import JvmDerived.Pilot.@@N@@Code
set_option linter.unusedVariables false
set_option linter.unusedSimpArgs false
namespace Jvm.RoadKit
open Sem ClassFile Op Lib Jvm.Stand Jvm.Free Jvm.LawKit
section Own
variable {p : Program} {l : Launch} {e : Env} {R : Room} {s : State} {m : MethodId} {args : Array Value} {below : List Frame} {meth : Method} {c : Code} {T : State} {locs : List Loc} {cells slots : Nat} {Z : State} {a0 : Array Value} {h h' : Heap}
theorem retI (X : Stand p l e R s m args below meth c T locs cells slots) (hx : p.tables.exec = Jvm.exec) {pc : Nat} {Ls : Array Slot} {z : Int32} {rest : List Value} (hret : meth.sig.returnType = some .int) (hd : decode c.code pc = .ok (.ireturn, 1)) {fs : List Frame}
    (hl : ∀ (f : JFrame) (acts : List Action), f.method = m → f.locked = none → f.entered = [] → (doReturn e (T.setTop f) acts (some (.int z))).1 = T.setFrames fs) : Steps p.tables e below (T.setTop (mkF m pc Ls (.int z :: rest))) (T.setFrames fs) := by
  have hm' : T.vm.method? m = some meth := X.method'
  have hn : narrow .int (.int z) = .int z := rfl
  show Steps p.tables e below (T.setTop { method := m, pc := pc, locals := Ls, stack := _ :: rest, locked := none }) _
  jvm_step X.here [X.here.top, hx, hd, hm', hret, hn]
  first | (intro acts; rw [hl _ acts rfl rfl rfl]) | rw [hl _ _ rfl rfl rfl]
  exact Steps.refl _
/-- from this frame the walk comes to an end that says G -/
def Rch (p : Program) (e : Env) (below : List Frame) (G : State → Outcome → Prop) (T : State) (g : JFrame) : Prop :=
  ∃ s₂ o, Steps p.tables e below (T.setTop g) s₂ ∧ s₂.status = .running ∧ Ended s₂ below o ∧ G s₂ o
variable {G : State → Outcome → Prop} {T' : State} {g g' : JFrame}
theorem Rch.go (st : ∀ t, Steps p.tables e below (T'.setTop g') t → Steps p.tables e below (T.setTop g) t) (k : Rch p e below G T' g') : Rch p e below G T g := by
  obtain ⟨s2, o, a, b⟩ := k
  exact ⟨s2, o, st _ a, b⟩
theorem Rch.jump (st : Steps p.tables e below (T.setTop g) (T'.setTop g')) (k : Rch p e below G T' g') : Rch p e below G T g := Rch.go (fun _ q => st.trans q) k
theorem Rch.entry {n : Nat} (q : entryFrame m args n = g) (k : Rch p e below G T g) : ∃ s₂ o, Steps p.tables e below (T.setTop (entryFrame m args n)) s₂ ∧ s₂.status = .running ∧ Ended s₂ below o ∧ G s₂ o := by rw [q]; exact k
/-- what a contract says of its end -/
def EndQ (Q : Option Value → Heap → List Loc → Prop) (U : State) (kc ks : Nat) (U' : State) (o : Outcome) : Prop := ∃ v L, o = .returned v ∧ Q v U'.heap L ∧ FrameEnd U o U' L kc ks
variable {Q : Option Value → Heap → List Loc → Prop} {kc ks : Nat} {pc : Nat} {Ls : Array Slot} {rest : List Value}
theorem Rch.retI (X : Stand p l e R s m args below meth c T locs cells slots) (hx : p.tables.exec = Jvm.exec) (hlk : meth.locks = false) {z : Int32} (hret : meth.sig.returnType = some .int) (hd : decode c.code pc = .ok (.ireturn, 1)) (hc : cells ≤ kc) (hs : slots ≤ ks) (hQ : Q (some (.int z)) T.heap locs) : Rch p e below (EndQ Q s kc ks) T (mkF m pc Ls (.int z :: rest)) := by
  obtain ⟨fs, hr, hrun, hended, hW, hsame⟩ := X.leave (v := some (.int z)) (fun h => by rw [hret] at h; cases h)
  exact ⟨_, _, Jvm.RoadKit.retI X hx hret hd hr, hrun, hended, _, _, rfl, hQ, ⟨_, rfl⟩, hW, hsame.mono hc hs⟩
theorem Rch.retZ (X : Stand p l e R s m args below meth c T locs cells slots) (hx : p.tables.exec = Jvm.exec) (hlk : meth.locks = false) {z : Int32} (hret : meth.sig.returnType = some .boolean) (hd : decode c.code pc = .ok (.ireturn, 1)) (hc : cells ≤ kc) (hs : slots ≤ ks) (hQ : Q (some (.int (nar .boolean z))) T.heap locs) : Rch p e below (EndQ Q s kc ks) T (mkF m pc Ls (.int z :: rest)) := by
  obtain ⟨fs, hr, hrun, hended, hW, hsame⟩ := X.leave (v := some (.int (nar .boolean z))) (fun h => by rw [hret] at h; cases h)
  exact ⟨_, _, retN X hx hret (Or.inl rfl) hd hr, hrun, hended, _, _, rfl, hQ, ⟨_, rfl⟩, hW, hsame.mono hc hs⟩
theorem Rch.retJ (X : Stand p l e R s m args below meth c T locs cells slots) (hx : p.tables.exec = Jvm.exec) (hlk : meth.locks = false) {z : Int64} (hret : meth.sig.returnType = some .long) (hd : decode c.code pc = .ok (.lreturn, 1)) (hc : cells ≤ kc) (hs : slots ≤ ks) (hQ : Q (some (.long z)) T.heap locs) : Rch p e below (EndQ Q s kc ks) T (mkF m pc Ls (.long z :: rest)) := by
  obtain ⟨fs, hr, hrun, hended, hW, hsame⟩ := X.leave (v := some (.long z)) (fun h => by rw [hret] at h; cases h)
  exact ⟨_, _, retOut X hx hret rfl (Or.inr (Or.inl ⟨rfl, rfl, _, rfl⟩)) hd hr, hrun, hended, _, _, rfl, hQ, ⟨_, rfl⟩, hW, hsame.mono hc hs⟩
theorem Rch.retA (X : Stand p l e R s m args below meth c T locs cells slots) (hx : p.tables.exec = Jvm.exec) (hlk : meth.locks = false) {a : Addr} {t : FieldType} (ht : t.isReference = true) (hn : narrow t (.ref a) = .ref a) (hret : meth.sig.returnType = some t) (hd : decode c.code pc = .ok (.areturn, 1)) (hc : cells ≤ kc) (hs : slots ≤ ks) (hQ : Q (some (.ref a)) T.heap locs) : Rch p e below (EndQ Q s kc ks) T (mkF m pc Ls (.ref a :: rest)) := by
  obtain ⟨fs, hr, hrun, hended, hW, hsame⟩ := X.leave (v := some (.ref a)) (fun h => by rw [hret] at h; cases h)
  exact ⟨_, _, retOut X hx hret hn (Or.inr (Or.inr (Or.inr (Or.inr ⟨rfl, ht, rfl⟩)))) hd hr, hrun, hended, _, _, rfl, hQ, ⟨_, rfl⟩, hW, hsame.mono hc hs⟩
theorem Rch.retV (X : Stand p l e R s m args below meth c T locs cells slots) (hx : p.tables.exec = Jvm.exec) (hlk : meth.locks = false) (hret : meth.sig.returnType = none) (hd : decode c.code pc = .ok (.return_, 1)) (hc : cells ≤ kc) (hs : slots ≤ ks) (hQ : Q none T.heap locs) : Rch p e below (EndQ Q s kc ks) T (mkF m pc Ls []) := by
  obtain ⟨fs, hr, hrun, hended, hW, hsame⟩ := X.leave (v := none) (fun _ => rfl)
  exact ⟨_, _, X.returnOut hx hret hd hr, hrun, hended, _, _, rfl, hQ, ⟨_, rfl⟩, hW, hsame.mono hc hs⟩
variable {a : Addr} {k : ClassId} {z : Int32} {vs : List Value} {dv : Value} {ty : FieldType}
theorem ldB (X : Stand p l e R s m args below meth c T locs cells slots) (hx : p.tables.exec = Jvm.exec) (hZ : Z.Warmed39 s.vm) (eT : T.heap = h) (V : Arv Z h a k .byte z vs dv) {j : Int32} {v : Value} (hj : ¬ j < 0 ∧ j < z) (hv : vs.getD j.toNatClampNeg dv = v) (hg : g.method = m) (hs : g.stack = .int j :: .ref a :: rest) (hd : decode c.code g.pc = .ok (.baload, 1)) (target : State)
    (hr : Steps p.tables e below (T.setTop { g with pc := g.pc + 1, stack := v :: rest }) target) : Steps p.tables e below (T.setTop g) target := by
  obtain ⟨c', A, -, S, M, H, -⟩ := V
  exact X.baloadBytes hx (by rw [eT]; exact A.1) (State.isArrayOf_alike hZ.alike A.2.1) A.2.2 (inb_of S hj) (H.at (inb_of S hj) hv) hg hs hd target hr
theorem ldI (X : Stand p l e R s m args below meth c T locs cells slots) (hx : p.tables.exec = Jvm.exec) (hZ : Z.Warmed39 s.vm) (eT : T.heap = h) (V : Arv Z h a k .int z vs dv) {j : Int32} {v : Value} (hj : ¬ j < 0 ∧ j < z) (hv : vs.getD j.toNatClampNeg dv = v) (hg : g.method = m) (hs : g.stack = .int j :: .ref a :: rest) (hd : decode c.code g.pc = .ok (.iaload, 1)) (target : State)
    (hr : Steps p.tables e below (T.setTop { g with pc := g.pc + 1, stack := v :: rest }) target) : Steps p.tables e below (T.setTop g) target := by
  obtain ⟨c', A, -, S, M, H, -⟩ := V
  exact X.iaload hx (by rw [eT]; exact A.1) (State.isArrayOf_alike hZ.alike A.2.1) A.2.2 (inb_of S hj) (H.at (inb_of S hj) hv) hg hs hd target hr
theorem ldJ (X : Stand p l e R s m args below meth c T locs cells slots) (hx : p.tables.exec = Jvm.exec) (hZ : Z.Warmed39 s.vm) (eT : T.heap = h) (V : Arv Z h a k .long z vs dv) {j : Int32} {v : Value} (hj : ¬ j < 0 ∧ j < z) (hv : vs.getD j.toNatClampNeg dv = v) (hg : g.method = m) (hs : g.stack = .int j :: .ref a :: rest) (hd : decode c.code g.pc = .ok (.laload, 1)) (target : State)
    (hr : Steps p.tables e below (T.setTop { g with pc := g.pc + 1, stack := v :: rest }) target) : Steps p.tables e below (T.setTop g) target := by
  obtain ⟨c', A, -, S, M, H, -⟩ := V
  exact X.laload hx (by rw [eT]; exact A.1) (State.isArrayOf_alike hZ.alike A.2.1) A.2.2 (inb_of S hj) (H.at (inb_of S hj) hv) hg hs hd target hr
theorem lenA (X : Stand p l e R s m args below meth c T locs cells slots) (hx : p.tables.exec = Jvm.exec) (hZ : Z.Warmed39 s.vm) (eT : T.heap = h) (V : Arv Z h a k ty z vs dv) (hg : g.method = m) (hs : g.stack = .ref a :: rest) (hd : decode c.code g.pc = .ok (.arraylength, 1)) (target : State)
    (hr : Steps p.tables e below (T.setTop { g with pc := g.pc + 1, stack := .int z :: rest }) target) : Steps p.tables e below (T.setTop g) target := by
  obtain ⟨c', A, -, S, M, H, -⟩ := V
  exact X.arraylength hx (by rw [eT]; exact A.1) (State.isArrayOf_alike hZ.alike A.2.1) hg hs hd target (by rw [len_of S M]; exact hr)
theorem sdB (X : Stand p l e R s m args below meth c T locs cells slots) (hx : p.tables.exec = Jvm.exec) (hZ : Z.Warmed39 s.vm) (eT : T.heap = h) (V : Arv Z h a k .byte z vs dv) {j x : Int32} (hj : ¬ j < 0 ∧ j < z) (i : Nat) (hi : j.toNatClampNeg = i) (hl : i < vs.length) (hg : g.method = m) (hs : g.stack = .int x :: .int j :: .ref a :: rest) (hd : decode c.code g.pc = .ok (.bastore, 1)) :
    ∃ T' h', Stand p l e R s m args below meth c T' (locs ++ [⟨a, j.toNatClampNeg⟩]) cells slots ∧ T'.heap = h' ∧ Wr h h' a j.toNatClampNeg (.int (nar .byte x)) ∧ Arv Z h' a k .byte z (vs.set i (.int (nar .byte x))) dv ∧ ∀ target, Steps p.tables e below (T'.setTop { g with pc := g.pc + 1, stack := rest }) target → Steps p.tables e below (T.setTop g) target := by
  obtain ⟨c', A, q1, S, M, H, F⟩ := V
  obtain ⟨T', h', X', e', W, st⟩ := stB X hx hZ eT A (inb_of S hj) hg hs hd
  exact ⟨T', h', X', e', W, Arv.set A q1 S M H F (fits_nar_byte x) W i hi hl, st⟩
theorem sdI (X : Stand p l e R s m args below meth c T locs cells slots) (hx : p.tables.exec = Jvm.exec) (hZ : Z.Warmed39 s.vm) (eT : T.heap = h) (V : Arv Z h a k .int z vs dv) {j x : Int32} (hj : ¬ j < 0 ∧ j < z) (i : Nat) (hi : j.toNatClampNeg = i) (hl : i < vs.length) (hg : g.method = m) (hs : g.stack = .int x :: .int j :: .ref a :: rest) (hd : decode c.code g.pc = .ok (.iastore, 1)) :
    ∃ T' h', Stand p l e R s m args below meth c T' (locs ++ [⟨a, j.toNatClampNeg⟩]) cells slots ∧ T'.heap = h' ∧ Wr h h' a j.toNatClampNeg (.int x) ∧ Arv Z h' a k .int z (vs.set i (.int x)) dv ∧ ∀ target, Steps p.tables e below (T'.setTop { g with pc := g.pc + 1, stack := rest }) target → Steps p.tables e below (T.setTop g) target := by
  obtain ⟨c', A, q1, S, M, H, F⟩ := V
  obtain ⟨T', h', X', e', W, st⟩ := stI X hx hZ eT A (inb_of S hj) hg hs hd
  exact ⟨T', h', X', e', W, Arv.set A q1 S M H F rfl W i hi hl, st⟩
theorem sdJ (X : Stand p l e R s m args below meth c T locs cells slots) (hx : p.tables.exec = Jvm.exec) (hZ : Z.Warmed39 s.vm) (eT : T.heap = h) (V : Arv Z h a k .long z vs dv) {j : Int32} {x : Int64} (hj : ¬ j < 0 ∧ j < z) (i : Nat) (hi : j.toNatClampNeg = i) (hl : i < vs.length) (hg : g.method = m) (hs : g.stack = .long x :: .int j :: .ref a :: rest) (hd : decode c.code g.pc = .ok (.lastore, 1)) :
    ∃ T' h', Stand p l e R s m args below meth c T' (locs ++ [⟨a, j.toNatClampNeg⟩]) cells slots ∧ T'.heap = h' ∧ Wr h h' a j.toNatClampNeg (.long x) ∧ Arv Z h' a k .long z (vs.set i (.long x)) dv ∧ ∀ target, Steps p.tables e below (T'.setTop { g with pc := g.pc + 1, stack := rest }) target → Steps p.tables e below (T.setTop g) target := by
  obtain ⟨c', A, q1, S, M, H, F⟩ := V
  obtain ⟨T', h', X', e', W, st⟩ := stJ X hx hZ eT A (inb_of S hj) hg hs hd
  exact ⟨T', h', X', e', W, Arv.set A q1 S M H F rfl W i hi hl, st⟩
theorem naw (X : Stand p l e R s m args below meth c T locs cells slots) (hx : p.tables.exec = Jvm.exec) (hZ : Z.Warmed39 s.vm) {aty : ArrayType} (w : (Cond.arrayClass (newarray.typeOf aty)).before a0 Z = true) (eT : T.heap = h) (hg : g.method = m) (hd : decode c.code g.pc = .ok (.newarray aty, 2)) {n : Int32} (hs : g.stack = .int n :: rest)
    (hn : ¬ n < 0) (i : Nat) {cap : Nat} (hcap : n.toNatClampNeg ≤ cap) (hb : cap * 8 ≤ 536870912) (hc : cells + 1 ≤ R.cells) (hl : slots + cap ≤ R.slots) :
    ∃ T' h' cA, Stand p l e R s m args below meth c T' locs (cells + 1) (slots + cap) ∧ T'.heap = h' ∧ Ext h h' ∧ Arv Z h' h.size cA (newarray.typeOf aty) n (List.replicate i (defaultValue (newarray.typeOf aty))) (defaultValue (newarray.typeOf aty)) ∧
      ∀ target, Steps p.tables e below (T'.setTop { g with pc := g.pc + 2, stack := .ref h.size :: rest }) target → Steps p.tables e below (T.setTop g) target := by
  obtain ⟨T', h', cA, X', e', E, A, st⟩ := newP X hx hZ w eT hg hd hs hn hcap hb hc hl
  exact ⟨T', h', cA, X', e', E, (Arv.new A hn).pad (fun q => (pad_rep [] _ i q)), st⟩
end Own
end Jvm.RoadKit
namespace Jvm.Pilot.@@N@@
open Jvm Jvm.ClassFile Sem Op Lib Jvm.Free Jvm.Stand Jvm.LawKit Jvm.RoadKit Bundle Jvm.Pilot.@@N@@.Jvm.D
def own_c (bs : List Int32) (p : Int32) (k : Nat) : Int32 := bs.getD (p.toNatClampNeg + k) 0 &&& (255 : Int32)
def own_sl (c : Int32) : Int32 := if c < (128 : Int32) then 1 else if c < (194 : Int32) then 0 else if c < (224 : Int32) then 2 else if c < (240 : Int32) then 3 else if c < (245 : Int32) then 4 else 0
def own_ir (c lo hi : Int32) : Int32 := if c < lo then 0 else if hi < c then 0 else 1
def own_lo (c : Int32) : Int32 := if c = (224 : Int32) then 160 else if c = (237 : Int32) then 128 else if c = (240 : Int32) then 144 else if c = (244 : Int32) then 128 else 128
def own_hi (c : Int32) : Int32 := if c = (224 : Int32) then 191 else if c = (237 : Int32) then 159 else if c = (240 : Int32) then 191 else if c = (244 : Int32) then 143 else 191
def own_cn1 : Int32 := 1
def own_cn2 (c1 lo hi : Int32) : Int32 := if own_ir c1 lo hi = (0 : Int32) then 0 else 1
def own_cn3 (c1 c2 lo hi : Int32) : Int32 := if own_ir c1 lo hi = (0 : Int32) then 0 else own_ir c2 128 191
def own_cn4 (c1 c2 c3 lo hi : Int32) : Int32 := if own_ir c1 lo hi = (0 : Int32) then 0 else if own_ir c2 128 191 = (0 : Int32) then 0 else own_ir c3 128 191
def own_st (c0 c1 c2 c3 av : Int32) : Int32 :=
  if own_sl c0 = 0 then 0 else if av < own_sl c0 then 0 else if own_sl c0 = 1 then 1 else if own_sl c0 = 2 then (if own_cn2 c1 (own_lo c0) (own_hi c0) = 0 then 0 else 2)
  else if own_sl c0 = 3 then (if own_cn3 c1 c2 (own_lo c0) (own_hi c0) = 0 then 0 else 3) else (if own_cn4 c1 c2 c3 (own_lo c0) (own_hi c0) = 0 then 0 else 4)
def own_chk (ln cp mn : Int32) : Int32 := if cp < mn then 0 else if cp < (55296 : Int32) then (if (1114111 : Int32) < cp then 0 else ln) else if (57343 : Int32) < cp then (if (1114111 : Int32) < cp then 0 else ln) else 0
def own_cp (cp c : Int32) : Int32 := ((cp <<< ((6 : Int32) &&& 31)) ||| (c &&& (63 : Int32)))
def own_sq2 (c0 c1 av : Int32) : Int32 := if av < (2 : Int32) then 0 else if (c1 &&& (192 : Int32)) = (128 : Int32) then own_chk 2 (own_cp (c0 &&& (31 : Int32)) c1) 128 else 0
def own_sq3 (c0 c1 c2 av : Int32) : Int32 := if av < (3 : Int32) then 0 else if (c1 &&& (192 : Int32)) = (128 : Int32) then (if (c2 &&& (192 : Int32)) = (128 : Int32) then own_chk 3 (own_cp (own_cp (c0 &&& (15 : Int32)) c1) c2) 2048 else 0) else 0
def own_sq4 (c0 c1 c2 c3 av : Int32) : Int32 := if av < (4 : Int32) then 0 else if (c1 &&& (192 : Int32)) = (128 : Int32) then (if (c2 &&& (192 : Int32)) = (128 : Int32) then (if (c3 &&& (192 : Int32)) = (128 : Int32) then own_chk 4 (own_cp (own_cp (own_cp (c0 &&& (7 : Int32)) c1) c2) c3) 65536 else 0) else 0) else 0
def own_sq (c0 c1 c2 c3 av : Int32) : Int32 := if c0 < (128 : Int32) then 1 else if (c0 &&& (224 : Int32)) = (192 : Int32) then own_sq2 c0 c1 av else if (c0 &&& (240 : Int32)) = (224 : Int32) then own_sq3 c0 c1 c2 av else if (c0 &&& (248 : Int32)) = (240 : Int32) then own_sq4 c0 c1 c2 c3 av else 0
def own_wf (sg : Int32 → Int32) (to : Int32) : Nat → Int32 → Int32
  | 0, _ => to
  | f + 1, i => if i < to then (if sg i = 0 then i else own_wf sg to f (i + sg i)) else to
theorem own_rd (bs : List Int32) (j : Nat) : (bs.map Value.int).getD j (.int 0) = .int (bs.getD j 0) := by
  simp only [List.getD_eq_getElem?_getD, List.getElem?_map]
  cases bs[j]? <;> rfl
theorem own_jk (p k : Int32) (kn : Nat) (hk : k.toInt = kn) (h0 : 0 ≤ p.toInt) (h : p.toInt + kn < 6) : (¬ (p + k) < 0 ∧ (p + k) < 6) ∧ (p + k).toNatClampNeg = p.toNatClampNeg + kn := by
  have e := c_iadd p k
  have r := rng32 (p + k)
  have k0 : (0 : Int32).toInt = 0 := rfl
  have k6 : (6 : Int32).toInt = 6 := rfl
  rw [hk] at e
  refine ⟨⟨?_, ?_⟩, ?_⟩
  · rw [Int32.lt_iff_toInt_lt, k0]; omega
  · rw [Int32.lt_iff_toInt_lt, k6]; omega
  · simp only [Int32.toNatClampNeg]; omega
theorem own_j0 (p : Int32) (h0 : 0 ≤ p.toInt) (h : p.toInt < 6) : ¬ p < 0 ∧ p < 6 := by
  have k0 : (0 : Int32).toInt = 0 := rfl
  have k6 : (6 : Int32).toInt = 6 := rfl
  simp only [Int32.lt_iff_toInt_lt, k0, k6]; omega
theorem own_ir_z (c lo hi : Int32) : own_ir c lo hi = 0 ∨ own_ir c lo hi = 1 := by unfold own_ir; (repeat' split) <;> simp
theorem own_ir_n (c lo hi : Int32) : nar .boolean (own_ir c lo hi) = own_ir c lo hi := by rcases own_ir_z c lo hi with h | h <;> rw [h] <;> rfl
theorem own_sl_z (c : Int32) : own_sl c = 0 ∨ own_sl c = 1 ∨ own_sl c = 2 ∨ own_sl c = 3 ∨ own_sl c = 4 := by unfold own_sl; (repeat' split) <;> simp

theorem own_from (p : Int32) : 0 ≤ ((p &&& (2147483647 : Int32)) % (7 : Int32)).toInt ∧ ((p &&& (2147483647 : Int32)) % (7 : Int32)).toInt ≤ 6 := by
  have h := c_and p 2147483647 (by decide)
  have g := (c_irem (p &&& 2147483647) 7 7 rfl).1 h.1
  omega
theorem own_nz (fr : Int32) (h0 : 0 ≤ fr.toInt) (h1 : fr.toInt ≤ 6) : ((7 : Int32) - fr) ≠ 0 := by
  have e := c_isub 7 fr
  have k7 : (7 : Int32).toInt = 7 := rfl
  have k0 : (0 : Int32).toInt = 0 := rfl
  rw [k7] at e
  intro q
  rw [← Int32.toInt_inj, k0] at q
  omega
theorem own_to (fr p : Int32) (h0 : 0 ≤ fr.toInt) (h1 : fr.toInt ≤ 6) : fr.toInt ≤ (fr + ((p &&& (2147483647 : Int32)) % ((7 : Int32) - fr))).toInt ∧ (fr + ((p &&& (2147483647 : Int32)) % ((7 : Int32) - fr))).toInt ≤ 6 := by
  have e := c_isub 7 fr
  have k7 : (7 : Int32).toInt = 7 := rfl
  rw [k7] at e
  have r := rng32 ((7 : Int32) - fr)
  have h := c_and p 2147483647 (by decide)
  have g := (c_iremV (p &&& 2147483647) ((7 : Int32) - fr)).1 h.1 (by omega)
  have a := c_iadd fr ((p &&& (2147483647 : Int32)) % ((7 : Int32) - fr))
  have r2 := rng32 (fr + ((p &&& (2147483647 : Int32)) % ((7 : Int32) - fr)))
  omega
theorem own_c_rng (bs : List Int32) (q : Int32) (k : Nat) : 0 ≤ (own_c bs q k).toInt ∧ (own_c bs q k).toInt ≤ 255 := by
  unfold own_c
  exact c_and _ 255 (by decide)
theorem own_bits_d : ∀ k : Fin 256, (((Int32.ofNat k.val &&& (224 : Int32)) = 192 ↔ 192 ≤ k.val ∧ k.val < 224) ∧ ((Int32.ofNat k.val &&& (240 : Int32)) = 224 ↔ 224 ≤ k.val ∧ k.val < 240) ∧ ((Int32.ofNat k.val &&& (248 : Int32)) = 240 ↔ 240 ≤ k.val ∧ k.val < 248) ∧ ((Int32.ofNat k.val &&& (192 : Int32)) = 128 ↔ 128 ≤ k.val ∧ k.val < 192)) := by decide +kernel
theorem own_bits (c : Int32) (h : 0 ≤ c.toInt ∧ c.toInt ≤ 255) : ((c &&& (224 : Int32)) = 192 ↔ 192 ≤ c.toInt ∧ c.toInt < 224) ∧ ((c &&& (240 : Int32)) = 224 ↔ 224 ≤ c.toInt ∧ c.toInt < 240) ∧ ((c &&& (248 : Int32)) = 240 ↔ 240 ≤ c.toInt ∧ c.toInt < 248) ∧ ((c &&& (192 : Int32)) = 128 ↔ 128 ≤ c.toInt ∧ c.toInt < 192) := by
  obtain ⟨n, hn⟩ : ∃ n : Nat, c.toInt = n := ⟨c.toInt.toNat, by omega⟩
  have hc : c = Int32.ofNat n := by
    rw [← Int32.toInt_inj, hn]
    have := len_toInt (n := n) (by omega)
    exact this.symm
  have d := own_bits_d ⟨n, by omega⟩
  simp only [← hc] at d
  rw [hn]
  obtain ⟨d1, d2, d3, d4⟩ := d
  refine ⟨d1.trans ?_, d2.trans ?_, d3.trans ?_, d4.trans ?_⟩ <;> omega
theorem own_cp_int (cp c : Int32) (h0 : 0 ≤ cp.toInt) (h1 : cp.toInt < 65536) : (own_cp cp c).toInt = cp.toInt * 64 + c.toInt % 64 := by
  have m := c_mask c 63 6 (by decide) (by decide)
  have s := c_ishl cp 6 6 (by decide)
  have r := rng32 (cp <<< ((6 : Int32) &&& 31))
  unfold own_cp
  generalize c &&& (63 : Int32) = x at *
  generalize cp <<< ((6 : Int32) &&& 31) = y at *
  have o := c_or y x 6 (by decide) 64 (by decide) (by omega) (by omega) (by omega)
  have r2 := rng32 (y ||| x)
  omega
theorem own_ir0 (c lo hi : Int32) : own_ir c lo hi = 0 ↔ (c.toInt < lo.toInt ∨ hi.toInt < c.toInt) := by
  unfold own_ir
  simp only [Int32.lt_iff_toInt_lt]
  repeat' split
  all_goals simp_all
theorem own_cn2_0 (c1 lo hi : Int32) : own_cn2 c1 lo hi = 0 ↔ (c1.toInt < lo.toInt ∨ hi.toInt < c1.toInt) := by
  unfold own_cn2
  simp only [own_ir0]
  split <;> simp_all
theorem own_cn3_0 (c1 c2 lo hi : Int32) : own_cn3 c1 c2 lo hi = 0 ↔ (c1.toInt < lo.toInt ∨ hi.toInt < c1.toInt) ∨ (c2.toInt < 128 ∨ 191 < c2.toInt) := by
  have k1 : (128 : Int32).toInt = 128 := rfl
  have k2 : (191 : Int32).toInt = 191 := rfl
  unfold own_cn3
  simp only [own_ir0]
  split
  · rename_i h; exact ⟨fun _ => Or.inl h, fun _ => rfl⟩
  · rename_i h; rw [own_ir0, k1, k2]; exact ⟨fun q => Or.inr q, fun q => q.resolve_left h⟩
theorem own_cn4_0 (c1 c2 c3 lo hi : Int32) : own_cn4 c1 c2 c3 lo hi = 0 ↔ (c1.toInt < lo.toInt ∨ hi.toInt < c1.toInt) ∨ (c2.toInt < 128 ∨ 191 < c2.toInt) ∨ (c3.toInt < 128 ∨ 191 < c3.toInt) := by
  have k1 : (128 : Int32).toInt = 128 := rfl
  have k2 : (191 : Int32).toInt = 191 := rfl
  unfold own_cn4
  simp only [own_ir0, k1, k2]
  split
  · rename_i h; exact ⟨fun _ => Or.inl h, fun _ => rfl⟩
  · rename_i h
    split
    · rename_i h'; exact ⟨fun _ => Or.inr (Or.inl h'), fun _ => rfl⟩
    · rename_i h'; rw [own_ir0, k1, k2]; exact ⟨fun q => Or.inr (Or.inr q), fun q => (q.resolve_left h).resolve_left h'⟩
theorem own_lo_int (c : Int32) : (own_lo c).toInt = if c.toInt = 224 then 160 else if c.toInt = 240 then 144 else 128 := by
  have k1 : (224 : Int32).toInt = 224 := rfl
  have k2 : (237 : Int32).toInt = 237 := rfl
  have k3 : (240 : Int32).toInt = 240 := rfl
  have k4 : (244 : Int32).toInt = 244 := rfl
  unfold own_lo
  simp only [← Int32.toInt_inj, k1, k2, k3, k4]
  repeat' split
  all_goals first | rfl | (exfalso; omega)
theorem own_hi_int (c : Int32) : (own_hi c).toInt = if c.toInt = 237 then 159 else if c.toInt = 244 then 143 else 191 := by
  have k1 : (224 : Int32).toInt = 224 := rfl
  have k2 : (237 : Int32).toInt = 237 := rfl
  have k3 : (240 : Int32).toInt = 240 := rfl
  have k4 : (244 : Int32).toInt = 244 := rfl
  unfold own_hi
  simp only [← Int32.toInt_inj, k1, k2, k3, k4]
  repeat' split
  all_goals first | rfl | (exfalso; omega)
theorem own_chk_int (ln cp mn : Int32) : own_chk ln cp mn = if cp.toInt < mn.toInt ∨ (55296 ≤ cp.toInt ∧ cp.toInt ≤ 57343) ∨ 1114111 < cp.toInt then 0 else ln := by
  have k1 : (55296 : Int32).toInt = 55296 := rfl
  have k2 : (1114111 : Int32).toInt = 1114111 := rfl
  have k3 : (57343 : Int32).toInt = 57343 := rfl
  unfold own_chk
  simp only [Int32.lt_iff_toInt_lt, k1, k2, k3]
  repeat' split
  all_goals first | rfl | (exfalso; omega)
theorem own_sl_int (c : Int32) : own_sl c = if c.toInt < 128 then 1 else if c.toInt < 194 then 0 else if c.toInt < 224 then 2 else if c.toInt < 240 then 3 else if c.toInt < 245 then 4 else 0 := by
  have k1 : (128 : Int32).toInt = 128 := rfl
  have k2 : (194 : Int32).toInt = 194 := rfl
  have k3 : (224 : Int32).toInt = 224 := rfl
  have k4 : (240 : Int32).toInt = 240 := rfl
  have k5 : (245 : Int32).toInt = 245 := rfl
  unfold own_sl
  simp only [Int32.lt_iff_toInt_lt, k1, k2, k3, k4, k5]
set_option maxHeartbeats 8000000 in
theorem own_step_eq (c0 c1 c2 c3 av : Int32) (h0 : 0 ≤ c0.toInt ∧ c0.toInt ≤ 255) (h1 : 0 ≤ c1.toInt ∧ c1.toInt ≤ 255) (h2 : 0 ≤ c2.toInt ∧ c2.toInt ≤ 255) (h3 : 0 ≤ c3.toInt ∧ c3.toInt ≤ 255) (ha : 1 ≤ av.toInt) :
    own_st c0 c1 c2 c3 av = own_sq c0 c1 c2 c3 av := by
  have b0 := own_bits c0 h0
  have b1 := (own_bits c1 h1).2.2.2
  have b2 := (own_bits c2 h2).2.2.2
  have b3 := (own_bits c3 h3).2.2.2
  have lo := own_lo_int c0
  have hi := own_hi_int c0
  have k1 : (1 : Int32).toInt = 1 := rfl
  have k2 : (2 : Int32).toInt = 2 := rfl
  have k3 : (3 : Int32).toInt = 3 := rfl
  have k4 : (4 : Int32).toInt = 4 := rfl
  have k128 : (128 : Int32).toInt = 128 := rfl
  have k2048 : (2048 : Int32).toInt = 2048 := rfl
  have k65536 : (65536 : Int32).toInt = 65536 := rfl
  have m31 := c_mask c0 31 5 (by decide) (by decide)
  have m15 := c_mask c0 15 4 (by decide) (by decide)
  have m7 := c_mask c0 7 3 (by decide) (by decide)
  have p31 := own_cp_int (c0 &&& 31) c1 (by omega) (by omega)
  have p15 := own_cp_int (c0 &&& 15) c1 (by omega) (by omega)
  have p7 := own_cp_int (c0 &&& 7) c1 (by omega) (by omega)
  have q15 := own_cp_int (own_cp (c0 &&& 15) c1) c2 (by omega) (by omega)
  have q7 := own_cp_int (own_cp (c0 &&& 7) c1) c2 (by omega) (by omega)
  have r7 := own_cp_int (own_cp (own_cp (c0 &&& 7) c1) c2) c3 (by omega) (by omega)
  by_cases g1 : c0.toInt < 128
  · have e : own_sl c0 = 1 := by rw [own_sl_int, if_pos g1]
    have n1 : ¬ av < (1 : Int32) := by rw [Int32.lt_iff_toInt_lt, k1]; omega
    have n2 : c0 < (128 : Int32) := by rw [Int32.lt_iff_toInt_lt, k128]; omega
    simp [own_st, own_sq, e, n1, n2]
  have n128 : ¬ c0 < (128 : Int32) := by rw [Int32.lt_iff_toInt_lt, k128]; omega
  have s2 : own_sq2 c0 c1 av = if av.toInt < 2 then 0 else if 128 ≤ c1.toInt ∧ c1.toInt < 192 then (if (own_cp (c0 &&& 31) c1).toInt < 128 ∨ (55296 ≤ (own_cp (c0 &&& 31) c1).toInt ∧ (own_cp (c0 &&& 31) c1).toInt ≤ 57343) ∨ 1114111 < (own_cp (c0 &&& 31) c1).toInt then 0 else 2) else 0 := by
    unfold own_sq2; rw [own_chk_int, k128]; simp only [Int32.lt_iff_toInt_lt, k2, b1]
  have s3 : own_sq3 c0 c1 c2 av = if av.toInt < 3 then 0 else if 128 ≤ c1.toInt ∧ c1.toInt < 192 then (if 128 ≤ c2.toInt ∧ c2.toInt < 192 then (if (own_cp (own_cp (c0 &&& 15) c1) c2).toInt < 2048 ∨ (55296 ≤ (own_cp (own_cp (c0 &&& 15) c1) c2).toInt ∧ (own_cp (own_cp (c0 &&& 15) c1) c2).toInt ≤ 57343) ∨ 1114111 < (own_cp (own_cp (c0 &&& 15) c1) c2).toInt then 0 else 3) else 0) else 0 := by
    unfold own_sq3; rw [own_chk_int, k2048]; simp only [Int32.lt_iff_toInt_lt, k3, b1, b2]
  have s4 : own_sq4 c0 c1 c2 c3 av = if av.toInt < 4 then 0 else if 128 ≤ c1.toInt ∧ c1.toInt < 192 then (if 128 ≤ c2.toInt ∧ c2.toInt < 192 then (if 128 ≤ c3.toInt ∧ c3.toInt < 192 then (if (own_cp (own_cp (own_cp (c0 &&& 7) c1) c2) c3).toInt < 65536 ∨ (55296 ≤ (own_cp (own_cp (own_cp (c0 &&& 7) c1) c2) c3).toInt ∧ (own_cp (own_cp (own_cp (c0 &&& 7) c1) c2) c3).toInt ≤ 57343) ∨ 1114111 < (own_cp (own_cp (own_cp (c0 &&& 7) c1) c2) c3).toInt then 0 else 4) else 0) else 0) else 0 := by
    unfold own_sq4; rw [own_chk_int, k65536]; simp only [Int32.lt_iff_toInt_lt, k4, b1, b2, b3]
  have sq : own_sq c0 c1 c2 c3 av = if 192 ≤ c0.toInt ∧ c0.toInt < 224 then own_sq2 c0 c1 av else if 224 ≤ c0.toInt ∧ c0.toInt < 240 then own_sq3 c0 c1 c2 av else if 240 ≤ c0.toInt ∧ c0.toInt < 248 then own_sq4 c0 c1 c2 c3 av else 0 := by
    unfold own_sq; rw [if_neg n128]; simp only [b0.1, b0.2.1, b0.2.2.1]
  by_cases g2 : c0.toInt < 194
  · have e : own_sl c0 = 0 := by rw [own_sl_int, if_neg g1, if_pos g2]
    have st : own_st c0 c1 c2 c3 av = 0 := by unfold own_st; rw [if_pos e]
    rw [st, sq, s2]
    repeat' split
    all_goals first | rfl | (exfalso; omega)
  by_cases g3 : c0.toInt < 224
  · have e : own_sl c0 = 2 := by rw [own_sl_int, if_neg g1, if_neg g2, if_pos g3]
    have st : own_st c0 c1 c2 c3 av = if av.toInt < 2 then 0 else if (c1.toInt < (own_lo c0).toInt ∨ (own_hi c0).toInt < c1.toInt) then 0 else 2 := by
      unfold own_st; simp only [e, own_cn2_0, Int32.lt_iff_toInt_lt, k2]; simp
    rw [if_neg (by omega), if_neg (by omega)] at lo
    rw [if_neg (by omega), if_neg (by omega)] at hi
    have sqC : own_sq c0 c1 c2 c3 av = own_sq2 c0 c1 av := by rw [sq, if_pos (by omega)]
    rw [st, sqC, s2, lo, hi]
    repeat' split
    all_goals first | rfl | (exfalso; omega)
  by_cases g4 : c0.toInt < 240
  · have e : own_sl c0 = 3 := by rw [own_sl_int, if_neg g1, if_neg g2, if_neg g3, if_pos g4]
    have st : own_st c0 c1 c2 c3 av = if av.toInt < 3 then 0 else if (c1.toInt < (own_lo c0).toInt ∨ (own_hi c0).toInt < c1.toInt) ∨ (c2.toInt < 128 ∨ 191 < c2.toInt) then 0 else 3 := by
      unfold own_st; simp only [e, own_cn3_0, Int32.lt_iff_toInt_lt, k3]; simp
    have sqC : own_sq c0 c1 c2 c3 av = own_sq3 c0 c1 c2 av := by rw [sq, if_neg (by omega), if_pos (by omega)]
    rw [st, sqC, s3]
    generalize (own_lo c0).toInt = lv at *
    generalize (own_hi c0).toInt = hv at *
    split at lo <;> (try split at lo) <;> split at hi <;> (try split at hi)
    all_goals (repeat' split)
    all_goals first | rfl | (exfalso; omega)
  by_cases g5 : c0.toInt < 245
  · have e : own_sl c0 = 4 := by rw [own_sl_int, if_neg g1, if_neg g2, if_neg g3, if_neg g4, if_pos g5]
    have st : own_st c0 c1 c2 c3 av = if av.toInt < 4 then 0 else if (c1.toInt < (own_lo c0).toInt ∨ (own_hi c0).toInt < c1.toInt) ∨ (c2.toInt < 128 ∨ 191 < c2.toInt) ∨ (c3.toInt < 128 ∨ 191 < c3.toInt) then 0 else 4 := by
      unfold own_st; simp only [e, own_cn4_0, Int32.lt_iff_toInt_lt, k4]; simp
    have sqC : own_sq c0 c1 c2 c3 av = own_sq4 c0 c1 c2 c3 av := by rw [sq, if_neg (by omega), if_neg (by omega), if_pos (by omega)]
    rw [st, sqC, s4]
    generalize (own_lo c0).toInt = lv at *
    generalize (own_hi c0).toInt = hv at *
    split at lo <;> (try split at lo) <;> split at hi <;> (try split at hi)
    all_goals (repeat' split)
    all_goals first | rfl | (exfalso; omega)
  · have e : own_sl c0 = 0 := by rw [own_sl_int, if_neg g1, if_neg g2, if_neg g3, if_neg g4, if_neg g5]
    have st : own_st c0 c1 c2 c3 av = 0 := by unfold own_st; rw [if_pos e]
    have sqC : own_sq c0 c1 c2 c3 av = if 240 ≤ c0.toInt ∧ c0.toInt < 248 then own_sq4 c0 c1 c2 c3 av else 0 := by rw [sq, if_neg (by omega), if_neg (by omega)]
    rw [st, sqC, s4]
    repeat' split
    all_goals first | rfl | (exfalso; omega)
theorem own_sq_le (c0 c1 c2 c3 av : Int32) (ha : 1 ≤ av.toInt) : own_sq c0 c1 c2 c3 av = 0 ∨ (0 ≤ (own_sq c0 c1 c2 c3 av).toInt ∧ (own_sq c0 c1 c2 c3 av).toInt ≤ av.toInt) := by
  have k1 : (1 : Int32).toInt = 1 := rfl
  have k2 : (2 : Int32).toInt = 2 := rfl
  have k3 : (3 : Int32).toInt = 3 := rfl
  have k4 : (4 : Int32).toInt = 4 := rfl
  unfold own_sq own_sq2 own_sq3 own_sq4
  simp only [own_chk_int, Int32.lt_iff_toInt_lt, k2, k3, k4]
  repeat' split
  all_goals first | exact Or.inl rfl | (right; omega)
theorem own_sq_bd (bs : List Int32) (q p3 : Int32) (h1 : 0 ≤ q.toInt) (h2 : q.toInt < p3.toInt) (h6 : p3.toInt ≤ 6) : (fun q => own_sq (own_c bs q 0) (own_c bs q 1) (own_c bs q 2) (own_c bs q 3) (p3 - q)) q = 0 ∨ (0 ≤ (q + (fun q => own_sq (own_c bs q 0) (own_c bs q 1) (own_c bs q 2) (own_c bs q 3) (p3 - q)) q).toInt ∧ (q + (fun q => own_sq (own_c bs q 0) (own_c bs q 1) (own_c bs q 2) (own_c bs q 3) (p3 - q)) q).toInt ≤ p3.toInt) := by
  simp only
  have e := c_isub p3 q
  have r := rng32 (p3 - q)
  have h := own_sq_le (own_c bs q 0) (own_c bs q 1) (own_c bs q 2) (own_c bs q 3) (p3 - q) (by omega)
  generalize own_sq (own_c bs q 0) (own_c bs q 1) (own_c bs q 2) (own_c bs q 3) (p3 - q) = v at *
  rcases h with h | h
  · exact Or.inl h
  · have a := c_iadd q v
    have r2 := rng32 (q + v)
    right; omega
theorem own_wf_congr (s1 s2 : Int32 → Int32) (to : Int32) (hs : ∀ q : Int32, 0 ≤ q.toInt → q.toInt < to.toInt → s1 q = s2 q) (hb : ∀ q : Int32, 0 ≤ q.toInt → q.toInt < to.toInt → s2 q = 0 ∨ (0 ≤ (q + s2 q).toInt ∧ (q + s2 q).toInt ≤ to.toInt)) : ∀ (f : Nat) (i : Int32), 0 ≤ i.toInt → own_wf s1 to f i = own_wf s2 to f i
  | 0, _, _ => rfl
  | f + 1, i, hi => by
    rw [own_wf, own_wf]
    by_cases h : i < to
    · have h' := Int32.lt_iff_toInt_lt.mp h
      rw [if_pos h, if_pos h, hs i hi h']
      rcases hb i hi h' with q | q
      · rw [if_pos q, if_pos q]
      · by_cases z : s2 i = 0
        · rw [if_pos z, if_pos z]
        · rw [if_neg z, if_neg z]; exact own_wf_congr s1 s2 to hs hb f _ q.1
    · rw [if_neg h, if_neg h]
theorem own_same (bs : List Int32) (fr to : Int32) (h0 : 0 ≤ fr.toInt) (h1 : fr.toInt ≤ to.toInt) (h6 : to.toInt ≤ 6) : own_wf (fun q => own_st (own_c bs q 0) (own_c bs q 1) (own_c bs q 2) (own_c bs q 3) (to - q)) to 6 fr = own_wf (fun q => own_sq (own_c bs q 0) (own_c bs q 1) (own_c bs q 2) (own_c bs q 3) (to - q)) to 6 fr := by
  refine own_wf_congr _ _ to (fun q h h' => ?_) (fun q h h' => own_sq_bd bs q to h h' h6) 6 fr h0
  have e := c_isub to q
  have r := rng32 (to - q)
  exact own_step_eq _ _ _ _ _ (own_c_rng bs q 0) (own_c_rng bs q 1) (own_c_rng bs q 2) (own_c_rng bs q 3) (by omega)

theorem own_pn0 : plainFor (⟨"com/example/slicewright/slicewright/runtime/Utf8", "sequenceLength", "(I)I"⟩ : MethodName) = true := by first | exact plainFor_of_name (by first | (simp [plainName, overriddenIn]; done) | decide +kernel) | decide +kernel
theorem own_pd0 : parseMethodDescriptor "(I)I" = some ⟨[.int], some .int⟩ := by decide +kernel
theorem d1_0 : decode prog_97_method_5_code 0 = .ok (.iload_n 0, 1) := by decide +kernel
theorem d1_1 : decode prog_97_method_5_code 1 = .ok (.sipush 128, 3) := by decide +kernel
theorem d1_4 : decode prog_97_method_5_code 4 = .ok (.if_icmp .ge 8, 3) := by decide +kernel
theorem d1_7 : decode prog_97_method_5_code 7 = .ok (.iconst 1, 1) := by decide +kernel
theorem d1_8 : decode prog_97_method_5_code 8 = .ok (.istore_n 1, 1) := by decide +kernel
theorem d1_9 : decode prog_97_method_5_code 9 = .ok (.goto 53, 3) := by decide +kernel
theorem d1_12 : decode prog_97_method_5_code 12 = .ok (.iload_n 0, 1) := by decide +kernel
theorem d1_13 : decode prog_97_method_5_code 13 = .ok (.sipush 194, 3) := by decide +kernel
theorem d1_16 : decode prog_97_method_5_code 16 = .ok (.if_icmp .ge 8, 3) := by decide +kernel
theorem d1_19 : decode prog_97_method_5_code 19 = .ok (.iconst 0, 1) := by decide +kernel
theorem d1_20 : decode prog_97_method_5_code 20 = .ok (.istore_n 1, 1) := by decide +kernel
theorem d1_21 : decode prog_97_method_5_code 21 = .ok (.goto 41, 3) := by decide +kernel
theorem d1_24 : decode prog_97_method_5_code 24 = .ok (.iload_n 0, 1) := by decide +kernel
theorem d1_25 : decode prog_97_method_5_code 25 = .ok (.sipush 224, 3) := by decide +kernel
theorem d1_28 : decode prog_97_method_5_code 28 = .ok (.if_icmp .ge 8, 3) := by decide +kernel
theorem d1_31 : decode prog_97_method_5_code 31 = .ok (.iconst 2, 1) := by decide +kernel
theorem d1_32 : decode prog_97_method_5_code 32 = .ok (.istore_n 1, 1) := by decide +kernel
theorem d1_33 : decode prog_97_method_5_code 33 = .ok (.goto 29, 3) := by decide +kernel
theorem d1_36 : decode prog_97_method_5_code 36 = .ok (.iload_n 0, 1) := by decide +kernel
theorem d1_37 : decode prog_97_method_5_code 37 = .ok (.sipush 240, 3) := by decide +kernel
theorem d1_40 : decode prog_97_method_5_code 40 = .ok (.if_icmp .ge 8, 3) := by decide +kernel
theorem d1_43 : decode prog_97_method_5_code 43 = .ok (.iconst 3, 1) := by decide +kernel
theorem d1_44 : decode prog_97_method_5_code 44 = .ok (.istore_n 1, 1) := by decide +kernel
theorem d1_45 : decode prog_97_method_5_code 45 = .ok (.goto 17, 3) := by decide +kernel
theorem d1_48 : decode prog_97_method_5_code 48 = .ok (.iload_n 0, 1) := by decide +kernel
theorem d1_49 : decode prog_97_method_5_code 49 = .ok (.sipush 245, 3) := by decide +kernel
theorem d1_52 : decode prog_97_method_5_code 52 = .ok (.if_icmp .ge 8, 3) := by decide +kernel
theorem d1_55 : decode prog_97_method_5_code 55 = .ok (.iconst 4, 1) := by decide +kernel
theorem d1_56 : decode prog_97_method_5_code 56 = .ok (.istore_n 1, 1) := by decide +kernel
theorem d1_57 : decode prog_97_method_5_code 57 = .ok (.goto 5, 3) := by decide +kernel
theorem d1_60 : decode prog_97_method_5_code 60 = .ok (.iconst 0, 1) := by decide +kernel
theorem d1_61 : decode prog_97_method_5_code 61 = .ok (.istore_n 1, 1) := by decide +kernel
theorem d1_62 : decode prog_97_method_5_code 62 = .ok (.iload_n 1, 1) := by decide +kernel
theorem d1_63 : decode prog_97_method_5_code 63 = .ok (.ireturn, 1) := by decide +kernel
theorem own_ef1 (m : MethodId) (x0 : Int32) : entryFrame m #[(.int x0)] 2 = mkF m 0 #[.val (.int x0), .unset] [] := by first | (simp [entryFrame, mkF, argsToLocals, Value.category, maxLocals]; done) | rfl
def Qrm1 (Z : State) (p1 : Int32)  (h0 : Heap) (n0 : Nat) : Option Value → Heap → List Loc → Prop := fun v h L => v = some (.int (own_sl p1)) ∧ Fr n0 L ∧ h = h0
set_option maxRecDepth 65536 in
set_option maxHeartbeats 40000000 in
theorem rm1 (l : Launch) (Z : State) (a0 : Array Value) (hw : ∀ d ∈ tables_1, d.before a0 Z = true) (ws : List Jvm.Cond) (p1 : Int32)  (h0 : Heap) (n0 : Nat) (Z0 : n0 ≤ h0.size)  :
    MetFree l (⟨"com/example/slicewright/slicewright/runtime/Utf8", "sequenceLength", "(I)I"⟩ : MethodName) (head1 (Jvm.Cond.code (⟨"com/example/slicewright/slicewright/runtime/Utf8", "sequenceLength", "(I)I"⟩ : MethodName) prog_97_method_5_code 2 (some .int) :: ws) ({ frames := 0, cells := 0, slots := 0, locals := 0 } : Room)) (fun a U => a = #[(.int p1)] ∧ Z.Warmed39 U.vm ∧ U.heap = h0) (fun _ _ _ _ _ => True) (fun _ U o U' => ∃ v L, o = .returned v ∧ (Qrm1 Z p1  h0 n0) v U'.heap L ∧ FrameEnd U o U' L ({ frames := 0, cells := 0, slots := 0, locals := 0 } : Room).cells ({ frames := 0, cells := 0, slots := 0, locals := 0 } : Room).slots) := by
  refine MetFree.of_bodySF own_pn0 hisR ?_
  intro p ev s m args below meth c s₁ Bd hml0 hP hK
  obtain ⟨rfl, hZ, hh⟩ := hP
  have hx := Bd.exec
  have hby := Bd.bytes
  have hlk := Bd.notSynchronized
  have hml : c.maxLocals = 2 := hml0
  have hown : s.vm.findClass "com/example/slicewright/slicewright/runtime/Utf8" = some m.cls := findClass_of_methodNamed Bd.named
  have hnm := (name_of_methodNamed Bd.named Bd.method).1
  have X0 : Stand p l ev ({ frames := 0, cells := 0, slots := 0, locals := 0 } : Room) s m #[(.int p1)] below meth c s₁ [] 0 0 := Stand.of_body Bd
  have e0 : s₁.heap = h0 := by rw [← hh, Bd.state]; rfl
  have N0 := Fr.nil n0
  refine Rch.entry (G := (EndQ (Qrm1 Z p1  h0 n0) s ({ frames := 0, cells := 0, slots := 0, locals := 0 } : Room).cells ({ frames := 0, cells := 0, slots := 0, locals := 0 } : Room).slots)) (own_ef1 m p1) ?_
  show Rch p ev below _ s₁ (mkF m 0 #[.val (.int p1), .unset] [])
  refine Rch.go (fun _ q => XS.iloadN X0.here hx rfl (hb hby d1_0) rfl  q) ?_
  show Rch p ev below _ s₁ (mkF m 1 #[.val (.int p1), .unset] [(.int p1)])
  refine Rch.go (fun _ q => XS.sipush X0.here hx rfl (hb hby d1_1) q) ?_
  show Rch p ev below _ s₁ (mkF m 4 #[.val (.int p1), .unset] [(.int (128 : Int32)), (.int p1)])
  by_cases hc4 : p1 < (128 : Int32)
  · skip
    refine Rch.go (fun _ q => XS.icmpNo X0.here hx rfl (hb hby d1_4) rfl (tlt hc4).2.1 q) ?_
    show Rch p ev below _ s₁ (mkF m 7 #[.val (.int p1), .unset] [])
    refine Rch.go (fun _ q => XS.iconst X0.here hx rfl (hb hby d1_7) q) ?_
    show Rch p ev below _ s₁ (mkF m 8 #[.val (.int p1), .unset] [(.int (1 : Int32))])
    refine Rch.go (fun _ q => XS.istoreN X0.here hx rfl (hb hby d1_8) rfl (l' := #[.val (.int p1), .val (.int (1 : Int32))]) rfl q) ?_
    show Rch p ev below _ s₁ (mkF m 9 #[.val (.int p1), .val (.int (1 : Int32))] [])
    refine Rch.go (fun _ q => XS.goto X0.here hx rfl (pc0 := 9) (pc' := 62) rfl (hb hby d1_9) (by decide) (by decide) q) ?_
    show Rch p ev below _ s₁ (mkF m 62 #[.val (.int p1), .val (.int (1 : Int32))] [])
    refine Rch.go (fun _ q => XS.iloadN X0.here hx rfl (hb hby d1_62) rfl  q) ?_
    show Rch p ev below _ s₁ (mkF m 63 #[.val (.int p1), .val (.int (1 : Int32))] [(.int (1 : Int32))])
    refine Rch.retI X0 hx hlk Bd.returns (hb hby d1_63) (by decide) (by decide) ?_
    unfold Qrm1
    exact ⟨by simp only [own_sl, hc4, if_true, if_false], N0, e0⟩
  · skip
    refine Rch.go (fun _ q => XS.icmpYes X0.here hx rfl (pc0 := 4) (pc' := 12) rfl (hb hby d1_4) rfl (flt hc4).2.1 (by decide) (by decide) q) ?_
    show Rch p ev below _ s₁ (mkF m 12 #[.val (.int p1), .unset] [])
    refine Rch.go (fun _ q => XS.iloadN X0.here hx rfl (hb hby d1_12) rfl  q) ?_
    show Rch p ev below _ s₁ (mkF m 13 #[.val (.int p1), .unset] [(.int p1)])
    refine Rch.go (fun _ q => XS.sipush X0.here hx rfl (hb hby d1_13) q) ?_
    show Rch p ev below _ s₁ (mkF m 16 #[.val (.int p1), .unset] [(.int (194 : Int32)), (.int p1)])
    by_cases hc16 : p1 < (194 : Int32)
    · skip
      refine Rch.go (fun _ q => XS.icmpNo X0.here hx rfl (hb hby d1_16) rfl (tlt hc16).2.1 q) ?_
      show Rch p ev below _ s₁ (mkF m 19 #[.val (.int p1), .unset] [])
      refine Rch.go (fun _ q => XS.iconst X0.here hx rfl (hb hby d1_19) q) ?_
      show Rch p ev below _ s₁ (mkF m 20 #[.val (.int p1), .unset] [(.int (0 : Int32))])
      refine Rch.go (fun _ q => XS.istoreN X0.here hx rfl (hb hby d1_20) rfl (l' := #[.val (.int p1), .val (.int (0 : Int32))]) rfl q) ?_
      show Rch p ev below _ s₁ (mkF m 21 #[.val (.int p1), .val (.int (0 : Int32))] [])
      refine Rch.go (fun _ q => XS.goto X0.here hx rfl (pc0 := 21) (pc' := 62) rfl (hb hby d1_21) (by decide) (by decide) q) ?_
      show Rch p ev below _ s₁ (mkF m 62 #[.val (.int p1), .val (.int (0 : Int32))] [])
      refine Rch.go (fun _ q => XS.iloadN X0.here hx rfl (hb hby d1_62) rfl  q) ?_
      show Rch p ev below _ s₁ (mkF m 63 #[.val (.int p1), .val (.int (0 : Int32))] [(.int (0 : Int32))])
      refine Rch.retI X0 hx hlk Bd.returns (hb hby d1_63) (by decide) (by decide) ?_
      unfold Qrm1
      exact ⟨by simp only [own_sl, hc4, hc16, if_true, if_false], N0, e0⟩
    · skip
      refine Rch.go (fun _ q => XS.icmpYes X0.here hx rfl (pc0 := 16) (pc' := 24) rfl (hb hby d1_16) rfl (flt hc16).2.1 (by decide) (by decide) q) ?_
      show Rch p ev below _ s₁ (mkF m 24 #[.val (.int p1), .unset] [])
      refine Rch.go (fun _ q => XS.iloadN X0.here hx rfl (hb hby d1_24) rfl  q) ?_
      show Rch p ev below _ s₁ (mkF m 25 #[.val (.int p1), .unset] [(.int p1)])
      refine Rch.go (fun _ q => XS.sipush X0.here hx rfl (hb hby d1_25) q) ?_
      show Rch p ev below _ s₁ (mkF m 28 #[.val (.int p1), .unset] [(.int (224 : Int32)), (.int p1)])
      by_cases hc28 : p1 < (224 : Int32)
      · skip
        refine Rch.go (fun _ q => XS.icmpNo X0.here hx rfl (hb hby d1_28) rfl (tlt hc28).2.1 q) ?_
        show Rch p ev below _ s₁ (mkF m 31 #[.val (.int p1), .unset] [])
        refine Rch.go (fun _ q => XS.iconst X0.here hx rfl (hb hby d1_31) q) ?_
        show Rch p ev below _ s₁ (mkF m 32 #[.val (.int p1), .unset] [(.int (2 : Int32))])
        refine Rch.go (fun _ q => XS.istoreN X0.here hx rfl (hb hby d1_32) rfl (l' := #[.val (.int p1), .val (.int (2 : Int32))]) rfl q) ?_
        show Rch p ev below _ s₁ (mkF m 33 #[.val (.int p1), .val (.int (2 : Int32))] [])
        refine Rch.go (fun _ q => XS.goto X0.here hx rfl (pc0 := 33) (pc' := 62) rfl (hb hby d1_33) (by decide) (by decide) q) ?_
        show Rch p ev below _ s₁ (mkF m 62 #[.val (.int p1), .val (.int (2 : Int32))] [])
        refine Rch.go (fun _ q => XS.iloadN X0.here hx rfl (hb hby d1_62) rfl  q) ?_
        show Rch p ev below _ s₁ (mkF m 63 #[.val (.int p1), .val (.int (2 : Int32))] [(.int (2 : Int32))])
        refine Rch.retI X0 hx hlk Bd.returns (hb hby d1_63) (by decide) (by decide) ?_
        unfold Qrm1
        exact ⟨by simp only [own_sl, hc4, hc16, hc28, if_true, if_false], N0, e0⟩
      · skip
        refine Rch.go (fun _ q => XS.icmpYes X0.here hx rfl (pc0 := 28) (pc' := 36) rfl (hb hby d1_28) rfl (flt hc28).2.1 (by decide) (by decide) q) ?_
        show Rch p ev below _ s₁ (mkF m 36 #[.val (.int p1), .unset] [])
        refine Rch.go (fun _ q => XS.iloadN X0.here hx rfl (hb hby d1_36) rfl  q) ?_
        show Rch p ev below _ s₁ (mkF m 37 #[.val (.int p1), .unset] [(.int p1)])
        refine Rch.go (fun _ q => XS.sipush X0.here hx rfl (hb hby d1_37) q) ?_
        show Rch p ev below _ s₁ (mkF m 40 #[.val (.int p1), .unset] [(.int (240 : Int32)), (.int p1)])
        by_cases hc40 : p1 < (240 : Int32)
        · skip
          refine Rch.go (fun _ q => XS.icmpNo X0.here hx rfl (hb hby d1_40) rfl (tlt hc40).2.1 q) ?_
          show Rch p ev below _ s₁ (mkF m 43 #[.val (.int p1), .unset] [])
          refine Rch.go (fun _ q => XS.iconst X0.here hx rfl (hb hby d1_43) q) ?_
          show Rch p ev below _ s₁ (mkF m 44 #[.val (.int p1), .unset] [(.int (3 : Int32))])
          refine Rch.go (fun _ q => XS.istoreN X0.here hx rfl (hb hby d1_44) rfl (l' := #[.val (.int p1), .val (.int (3 : Int32))]) rfl q) ?_
          show Rch p ev below _ s₁ (mkF m 45 #[.val (.int p1), .val (.int (3 : Int32))] [])
          refine Rch.go (fun _ q => XS.goto X0.here hx rfl (pc0 := 45) (pc' := 62) rfl (hb hby d1_45) (by decide) (by decide) q) ?_
          show Rch p ev below _ s₁ (mkF m 62 #[.val (.int p1), .val (.int (3 : Int32))] [])
          refine Rch.go (fun _ q => XS.iloadN X0.here hx rfl (hb hby d1_62) rfl  q) ?_
          show Rch p ev below _ s₁ (mkF m 63 #[.val (.int p1), .val (.int (3 : Int32))] [(.int (3 : Int32))])
          refine Rch.retI X0 hx hlk Bd.returns (hb hby d1_63) (by decide) (by decide) ?_
          unfold Qrm1
          exact ⟨by simp only [own_sl, hc4, hc16, hc28, hc40, if_true, if_false], N0, e0⟩
        · skip
          refine Rch.go (fun _ q => XS.icmpYes X0.here hx rfl (pc0 := 40) (pc' := 48) rfl (hb hby d1_40) rfl (flt hc40).2.1 (by decide) (by decide) q) ?_
          show Rch p ev below _ s₁ (mkF m 48 #[.val (.int p1), .unset] [])
          refine Rch.go (fun _ q => XS.iloadN X0.here hx rfl (hb hby d1_48) rfl  q) ?_
          show Rch p ev below _ s₁ (mkF m 49 #[.val (.int p1), .unset] [(.int p1)])
          refine Rch.go (fun _ q => XS.sipush X0.here hx rfl (hb hby d1_49) q) ?_
          show Rch p ev below _ s₁ (mkF m 52 #[.val (.int p1), .unset] [(.int (245 : Int32)), (.int p1)])
          by_cases hc52 : p1 < (245 : Int32)
          · skip
            refine Rch.go (fun _ q => XS.icmpNo X0.here hx rfl (hb hby d1_52) rfl (tlt hc52).2.1 q) ?_
            show Rch p ev below _ s₁ (mkF m 55 #[.val (.int p1), .unset] [])
            refine Rch.go (fun _ q => XS.iconst X0.here hx rfl (hb hby d1_55) q) ?_
            show Rch p ev below _ s₁ (mkF m 56 #[.val (.int p1), .unset] [(.int (4 : Int32))])
            refine Rch.go (fun _ q => XS.istoreN X0.here hx rfl (hb hby d1_56) rfl (l' := #[.val (.int p1), .val (.int (4 : Int32))]) rfl q) ?_
            show Rch p ev below _ s₁ (mkF m 57 #[.val (.int p1), .val (.int (4 : Int32))] [])
            refine Rch.go (fun _ q => XS.goto X0.here hx rfl (pc0 := 57) (pc' := 62) rfl (hb hby d1_57) (by decide) (by decide) q) ?_
            show Rch p ev below _ s₁ (mkF m 62 #[.val (.int p1), .val (.int (4 : Int32))] [])
            refine Rch.go (fun _ q => XS.iloadN X0.here hx rfl (hb hby d1_62) rfl  q) ?_
            show Rch p ev below _ s₁ (mkF m 63 #[.val (.int p1), .val (.int (4 : Int32))] [(.int (4 : Int32))])
            refine Rch.retI X0 hx hlk Bd.returns (hb hby d1_63) (by decide) (by decide) ?_
            unfold Qrm1
            exact ⟨by simp only [own_sl, hc4, hc16, hc28, hc40, hc52, if_true, if_false], N0, e0⟩
          · skip
            refine Rch.go (fun _ q => XS.icmpYes X0.here hx rfl (pc0 := 52) (pc' := 60) rfl (hb hby d1_52) rfl (flt hc52).2.1 (by decide) (by decide) q) ?_
            show Rch p ev below _ s₁ (mkF m 60 #[.val (.int p1), .unset] [])
            refine Rch.go (fun _ q => XS.iconst X0.here hx rfl (hb hby d1_60) q) ?_
            show Rch p ev below _ s₁ (mkF m 61 #[.val (.int p1), .unset] [(.int (0 : Int32))])
            refine Rch.go (fun _ q => XS.istoreN X0.here hx rfl (hb hby d1_61) rfl (l' := #[.val (.int p1), .val (.int (0 : Int32))]) rfl q) ?_
            show Rch p ev below _ s₁ (mkF m 62 #[.val (.int p1), .val (.int (0 : Int32))] [])
            refine Rch.go (fun _ q => XS.iloadN X0.here hx rfl (hb hby d1_62) rfl  q) ?_
            show Rch p ev below _ s₁ (mkF m 63 #[.val (.int p1), .val (.int (0 : Int32))] [(.int (0 : Int32))])
            refine Rch.retI X0 hx hlk Bd.returns (hb hby d1_63) (by decide) (by decide) ?_
            unfold Qrm1
            exact ⟨by simp only [own_sl, hc4, hc16, hc28, hc40, hc52, if_true, if_false], N0, e0⟩
theorem own_pn1 : plainFor (⟨"com/example/slicewright/slicewright/runtime/Utf8", "inRange", "(BII)Z"⟩ : MethodName) = true := by first | exact plainFor_of_name (by first | (simp [plainName, overriddenIn]; done) | decide +kernel) | decide +kernel
theorem own_pd1 : parseMethodDescriptor "(BII)Z" = some ⟨[.byte, .int, .int], some .boolean⟩ := by decide +kernel
theorem d2_0 : decode prog_97_method_7_code 0 = .ok (.iload_n 0, 1) := by decide +kernel
theorem d2_1 : decode prog_97_method_7_code 1 = .ok (.sipush 255, 3) := by decide +kernel
theorem d2_4 : decode prog_97_method_7_code 4 = .ok (.iand, 1) := by decide +kernel
theorem d2_5 : decode prog_97_method_7_code 5 = .ok (.istore_n 3, 1) := by decide +kernel
theorem d2_6 : decode prog_97_method_7_code 6 = .ok (.iload_n 3, 1) := by decide +kernel
theorem d2_7 : decode prog_97_method_7_code 7 = .ok (.iload_n 1, 1) := by decide +kernel
theorem d2_8 : decode prog_97_method_7_code 8 = .ok (.if_icmp .lt 12, 3) := by decide +kernel
theorem d2_11 : decode prog_97_method_7_code 11 = .ok (.iload_n 3, 1) := by decide +kernel
theorem d2_12 : decode prog_97_method_7_code 12 = .ok (.iload_n 2, 1) := by decide +kernel
theorem d2_13 : decode prog_97_method_7_code 13 = .ok (.if_icmp .gt 7, 3) := by decide +kernel
theorem d2_16 : decode prog_97_method_7_code 16 = .ok (.iconst 1, 1) := by decide +kernel
theorem d2_17 : decode prog_97_method_7_code 17 = .ok (.goto 4, 3) := by decide +kernel
theorem d2_20 : decode prog_97_method_7_code 20 = .ok (.iconst 0, 1) := by decide +kernel
theorem d2_21 : decode prog_97_method_7_code 21 = .ok (.ireturn, 1) := by decide +kernel
theorem own_ef2 (m : MethodId) (x0 : Int32) (x1 : Int32) (x2 : Int32) : entryFrame m #[(.int x0), (.int x1), (.int x2)] 4 = mkF m 0 #[.val (.int x0), .val (.int x1), .val (.int x2), .unset] [] := by first | (simp [entryFrame, mkF, argsToLocals, Value.category, maxLocals]; done) | rfl
def Qrm2 (Z : State) (p1 : Int32) (p2 : Int32) (p3 : Int32)  (h0 : Heap) (n0 : Nat) : Option Value → Heap → List Loc → Prop := fun v h L => v = some (.int (own_ir (p1 &&& (255 : Int32)) p2 p3)) ∧ Fr n0 L ∧ h = h0
set_option maxRecDepth 65536 in
set_option maxHeartbeats 40000000 in
theorem rm2 (l : Launch) (Z : State) (a0 : Array Value) (hw : ∀ d ∈ tables_1, d.before a0 Z = true) (ws : List Jvm.Cond) (p1 : Int32) (p2 : Int32) (p3 : Int32)  (h0 : Heap) (n0 : Nat) (Z0 : n0 ≤ h0.size)  :
    MetFree l (⟨"com/example/slicewright/slicewright/runtime/Utf8", "inRange", "(BII)Z"⟩ : MethodName) (head1 (Jvm.Cond.code (⟨"com/example/slicewright/slicewright/runtime/Utf8", "inRange", "(BII)Z"⟩ : MethodName) prog_97_method_7_code 4 (some .boolean) :: ws) ({ frames := 0, cells := 0, slots := 0, locals := 0 } : Room)) (fun a U => a = #[(.int p1), (.int p2), (.int p3)] ∧ Z.Warmed39 U.vm ∧ U.heap = h0) (fun _ _ _ _ _ => True) (fun _ U o U' => ∃ v L, o = .returned v ∧ (Qrm2 Z p1 p2 p3  h0 n0) v U'.heap L ∧ FrameEnd U o U' L ({ frames := 0, cells := 0, slots := 0, locals := 0 } : Room).cells ({ frames := 0, cells := 0, slots := 0, locals := 0 } : Room).slots) := by
  refine MetFree.of_bodySF own_pn1 hisR ?_
  intro p ev s m args below meth c s₁ Bd hml0 hP hK
  obtain ⟨rfl, hZ, hh⟩ := hP
  have hx := Bd.exec
  have hby := Bd.bytes
  have hlk := Bd.notSynchronized
  have hml : c.maxLocals = 4 := hml0
  have hown : s.vm.findClass "com/example/slicewright/slicewright/runtime/Utf8" = some m.cls := findClass_of_methodNamed Bd.named
  have hnm := (name_of_methodNamed Bd.named Bd.method).1
  have X0 : Stand p l ev ({ frames := 0, cells := 0, slots := 0, locals := 0 } : Room) s m #[(.int p1), (.int p2), (.int p3)] below meth c s₁ [] 0 0 := Stand.of_body Bd
  have e0 : s₁.heap = h0 := by rw [← hh, Bd.state]; rfl
  have N0 := Fr.nil n0
  refine Rch.entry (G := (EndQ (Qrm2 Z p1 p2 p3  h0 n0) s ({ frames := 0, cells := 0, slots := 0, locals := 0 } : Room).cells ({ frames := 0, cells := 0, slots := 0, locals := 0 } : Room).slots)) (own_ef2 m p1 p2 p3) ?_
  have hbool : ∀ x : Int32, nar .boolean x = x &&& 1 := fun _ => rfl
  show Rch p ev below _ s₁ (mkF m 0 #[.val (.int p1), .val (.int p2), .val (.int p3), .unset] [])
  refine Rch.go (fun _ q => XS.iloadN X0.here hx rfl (hb hby d2_0) rfl  q) ?_
  show Rch p ev below _ s₁ (mkF m 1 #[.val (.int p1), .val (.int p2), .val (.int p3), .unset] [(.int p1)])
  refine Rch.go (fun _ q => XS.sipush X0.here hx rfl (hb hby d2_1) q) ?_
  show Rch p ev below _ s₁ (mkF m 4 #[.val (.int p1), .val (.int p2), .val (.int p3), .unset] [(.int (255 : Int32)), (.int p1)])
  refine Rch.go (fun _ q => XS.iand X0.here hx rfl (hb hby d2_4) rfl q) ?_
  show Rch p ev below _ s₁ (mkF m 5 #[.val (.int p1), .val (.int p2), .val (.int p3), .unset] [(.int (p1 &&& (255 : Int32)))])
  refine Rch.go (fun _ q => XS.istoreN X0.here hx rfl (hb hby d2_5) rfl (l' := #[.val (.int p1), .val (.int p2), .val (.int p3), .val (.int (p1 &&& (255 : Int32)))]) rfl q) ?_
  show Rch p ev below _ s₁ (mkF m 6 #[.val (.int p1), .val (.int p2), .val (.int p3), .val (.int (p1 &&& (255 : Int32)))] [])
  refine Rch.go (fun _ q => XS.iloadN X0.here hx rfl (hb hby d2_6) rfl  q) ?_
  show Rch p ev below _ s₁ (mkF m 7 #[.val (.int p1), .val (.int p2), .val (.int p3), .val (.int (p1 &&& (255 : Int32)))] [(.int (p1 &&& (255 : Int32)))])
  refine Rch.go (fun _ q => XS.iloadN X0.here hx rfl (hb hby d2_7) rfl  q) ?_
  show Rch p ev below _ s₁ (mkF m 8 #[.val (.int p1), .val (.int p2), .val (.int p3), .val (.int (p1 &&& (255 : Int32)))] [(.int p2), (.int (p1 &&& (255 : Int32)))])
  by_cases hc8 : (p1 &&& (255 : Int32)) < p2
  · skip
    refine Rch.go (fun _ q => XS.icmpYes X0.here hx rfl (pc0 := 8) (pc' := 20) rfl (hb hby d2_8) rfl (tlt hc8).1 (by decide) (by decide) q) ?_
    show Rch p ev below _ s₁ (mkF m 20 #[.val (.int p1), .val (.int p2), .val (.int p3), .val (.int (p1 &&& (255 : Int32)))] [])
    refine Rch.go (fun _ q => XS.iconst X0.here hx rfl (hb hby d2_20) q) ?_
    show Rch p ev below _ s₁ (mkF m 21 #[.val (.int p1), .val (.int p2), .val (.int p3), .val (.int (p1 &&& (255 : Int32)))] [(.int (0 : Int32))])
    refine Rch.retZ X0 hx hlk Bd.returns (hb hby d2_21) (by decide) (by decide) ?_
    unfold Qrm2
    exact ⟨by simp only [own_ir, hc8, if_true, if_false]; first | done | rfl, N0, e0⟩
  · skip
    refine Rch.go (fun _ q => XS.icmpNo X0.here hx rfl (hb hby d2_8) rfl (flt hc8).1 q) ?_
    show Rch p ev below _ s₁ (mkF m 11 #[.val (.int p1), .val (.int p2), .val (.int p3), .val (.int (p1 &&& (255 : Int32)))] [])
    refine Rch.go (fun _ q => XS.iloadN X0.here hx rfl (hb hby d2_11) rfl  q) ?_
    show Rch p ev below _ s₁ (mkF m 12 #[.val (.int p1), .val (.int p2), .val (.int p3), .val (.int (p1 &&& (255 : Int32)))] [(.int (p1 &&& (255 : Int32)))])
    refine Rch.go (fun _ q => XS.iloadN X0.here hx rfl (hb hby d2_12) rfl  q) ?_
    show Rch p ev below _ s₁ (mkF m 13 #[.val (.int p1), .val (.int p2), .val (.int p3), .val (.int (p1 &&& (255 : Int32)))] [(.int p3), (.int (p1 &&& (255 : Int32)))])
    by_cases hc13 : p3 < (p1 &&& (255 : Int32))
    · skip
      refine Rch.go (fun _ q => XS.icmpYes X0.here hx rfl (pc0 := 13) (pc' := 20) rfl (hb hby d2_13) rfl (tlt hc13).2.2.1 (by decide) (by decide) q) ?_
      show Rch p ev below _ s₁ (mkF m 20 #[.val (.int p1), .val (.int p2), .val (.int p3), .val (.int (p1 &&& (255 : Int32)))] [])
      refine Rch.go (fun _ q => XS.iconst X0.here hx rfl (hb hby d2_20) q) ?_
      show Rch p ev below _ s₁ (mkF m 21 #[.val (.int p1), .val (.int p2), .val (.int p3), .val (.int (p1 &&& (255 : Int32)))] [(.int (0 : Int32))])
      refine Rch.retZ X0 hx hlk Bd.returns (hb hby d2_21) (by decide) (by decide) ?_
      unfold Qrm2
      exact ⟨by simp only [own_ir, hc8, hc13, if_true, if_false]; first | done | rfl, N0, e0⟩
    · skip
      refine Rch.go (fun _ q => XS.icmpNo X0.here hx rfl (hb hby d2_13) rfl (flt hc13).2.2.1 q) ?_
      show Rch p ev below _ s₁ (mkF m 16 #[.val (.int p1), .val (.int p2), .val (.int p3), .val (.int (p1 &&& (255 : Int32)))] [])
      refine Rch.go (fun _ q => XS.iconst X0.here hx rfl (hb hby d2_16) q) ?_
      show Rch p ev below _ s₁ (mkF m 17 #[.val (.int p1), .val (.int p2), .val (.int p3), .val (.int (p1 &&& (255 : Int32)))] [(.int (1 : Int32))])
      refine Rch.go (fun _ q => XS.goto X0.here hx rfl (pc0 := 17) (pc' := 21) rfl (hb hby d2_17) (by decide) (by decide) q) ?_
      show Rch p ev below _ s₁ (mkF m 21 #[.val (.int p1), .val (.int p2), .val (.int p3), .val (.int (p1 &&& (255 : Int32)))] [(.int (1 : Int32))])
      refine Rch.retZ X0 hx hlk Bd.returns (hb hby d2_21) (by decide) (by decide) ?_
      unfold Qrm2
      exact ⟨by simp only [own_ir, hc8, hc13, if_true, if_false]; first | done | rfl, N0, e0⟩
theorem own_pn2 : plainFor (⟨"com/example/slicewright/slicewright/runtime/Utf8", "continues", "([BII)Z"⟩ : MethodName) = true := by first | exact plainFor_of_name (by first | (simp [plainName, overriddenIn]; done) | decide +kernel) | decide +kernel
theorem own_pd2 : parseMethodDescriptor "([BII)Z" = some ⟨[(.array .byte), .int, .int], some .boolean⟩ := by decide +kernel
theorem d3_0 : decode prog_97_method_6_code 0 = .ok (.aload_n 0, 1) := by decide +kernel
theorem d3_1 : decode prog_97_method_6_code 1 = .ok (.iload_n 1, 1) := by decide +kernel
theorem d3_2 : decode prog_97_method_6_code 2 = .ok (.baload, 1) := by decide +kernel
theorem d3_3 : decode prog_97_method_6_code 3 = .ok (.sipush 255, 3) := by decide +kernel
theorem d3_6 : decode prog_97_method_6_code 6 = .ok (.iand, 1) := by decide +kernel
theorem d3_7 : decode prog_97_method_6_code 7 = .ok (.istore_n 3, 1) := by decide +kernel
theorem d3_8 : decode prog_97_method_6_code 8 = .ok (.iload_n 3, 1) := by decide +kernel
theorem d3_9 : decode prog_97_method_6_code 9 = .ok (.sipush 224, 3) := by decide +kernel
theorem d3_12 : decode prog_97_method_6_code 12 = .ok (.if_icmp .ne 16, 3) := by decide +kernel
theorem d3_15 : decode prog_97_method_6_code 15 = .ok (.sipush 160, 3) := by decide +kernel
theorem d3_18 : decode prog_97_method_6_code 18 = .ok (.istore 4, 2) := by decide +kernel
theorem d3_20 : decode prog_97_method_6_code 20 = .ok (.sipush 191, 3) := by decide +kernel
theorem d3_23 : decode prog_97_method_6_code 23 = .ok (.istore 5, 2) := by decide +kernel
theorem d3_25 : decode prog_97_method_6_code 25 = .ok (.goto 73, 3) := by decide +kernel
theorem d3_28 : decode prog_97_method_6_code 28 = .ok (.iload_n 3, 1) := by decide +kernel
theorem d3_29 : decode prog_97_method_6_code 29 = .ok (.sipush 237, 3) := by decide +kernel
theorem d3_32 : decode prog_97_method_6_code 32 = .ok (.if_icmp .ne 16, 3) := by decide +kernel
theorem d3_35 : decode prog_97_method_6_code 35 = .ok (.sipush 128, 3) := by decide +kernel
theorem d3_38 : decode prog_97_method_6_code 38 = .ok (.istore 4, 2) := by decide +kernel
theorem d3_40 : decode prog_97_method_6_code 40 = .ok (.sipush 159, 3) := by decide +kernel
theorem d3_43 : decode prog_97_method_6_code 43 = .ok (.istore 5, 2) := by decide +kernel
theorem d3_45 : decode prog_97_method_6_code 45 = .ok (.goto 53, 3) := by decide +kernel
theorem d3_48 : decode prog_97_method_6_code 48 = .ok (.iload_n 3, 1) := by decide +kernel
theorem d3_49 : decode prog_97_method_6_code 49 = .ok (.sipush 240, 3) := by decide +kernel
theorem d3_52 : decode prog_97_method_6_code 52 = .ok (.if_icmp .ne 16, 3) := by decide +kernel
theorem d3_55 : decode prog_97_method_6_code 55 = .ok (.sipush 144, 3) := by decide +kernel
theorem d3_58 : decode prog_97_method_6_code 58 = .ok (.istore 4, 2) := by decide +kernel
theorem d3_60 : decode prog_97_method_6_code 60 = .ok (.sipush 191, 3) := by decide +kernel
theorem d3_63 : decode prog_97_method_6_code 63 = .ok (.istore 5, 2) := by decide +kernel
theorem d3_65 : decode prog_97_method_6_code 65 = .ok (.goto 33, 3) := by decide +kernel
theorem d3_68 : decode prog_97_method_6_code 68 = .ok (.iload_n 3, 1) := by decide +kernel
theorem d3_69 : decode prog_97_method_6_code 69 = .ok (.sipush 244, 3) := by decide +kernel
theorem d3_72 : decode prog_97_method_6_code 72 = .ok (.if_icmp .ne 16, 3) := by decide +kernel
theorem d3_75 : decode prog_97_method_6_code 75 = .ok (.sipush 128, 3) := by decide +kernel
theorem d3_78 : decode prog_97_method_6_code 78 = .ok (.istore 4, 2) := by decide +kernel
theorem d3_80 : decode prog_97_method_6_code 80 = .ok (.sipush 143, 3) := by decide +kernel
theorem d3_83 : decode prog_97_method_6_code 83 = .ok (.istore 5, 2) := by decide +kernel
theorem d3_85 : decode prog_97_method_6_code 85 = .ok (.goto 13, 3) := by decide +kernel
theorem d3_88 : decode prog_97_method_6_code 88 = .ok (.sipush 128, 3) := by decide +kernel
theorem d3_91 : decode prog_97_method_6_code 91 = .ok (.istore 4, 2) := by decide +kernel
theorem d3_93 : decode prog_97_method_6_code 93 = .ok (.sipush 191, 3) := by decide +kernel
theorem d3_96 : decode prog_97_method_6_code 96 = .ok (.istore 5, 2) := by decide +kernel
theorem d3_98 : decode prog_97_method_6_code 98 = .ok (.iload_n 2, 1) := by decide +kernel
theorem d3_99 : decode prog_97_method_6_code 99 = .ok (.iconst 1, 1) := by decide +kernel
theorem d3_100 : decode prog_97_method_6_code 100 = .ok (.if_icmp .eq 18, 3) := by decide +kernel
theorem d3_103 : decode prog_97_method_6_code 103 = .ok (.aload_n 0, 1) := by decide +kernel
theorem d3_104 : decode prog_97_method_6_code 104 = .ok (.iload_n 1, 1) := by decide +kernel
theorem d3_105 : decode prog_97_method_6_code 105 = .ok (.iconst 1, 1) := by decide +kernel
theorem d3_106 : decode prog_97_method_6_code 106 = .ok (.iadd, 1) := by decide +kernel
theorem d3_107 : decode prog_97_method_6_code 107 = .ok (.baload, 1) := by decide +kernel
theorem d3_108 : decode prog_97_method_6_code 108 = .ok (.iload 4, 2) := by decide +kernel
theorem d3_110 : decode prog_97_method_6_code 110 = .ok (.iload 5, 2) := by decide +kernel
theorem d3_112 : decode prog_97_method_6_code 112 = .ok (.invokestatic 52, 3) := by decide +kernel
theorem d3_115 : decode prog_97_method_6_code 115 = .ok (.ifCond .eq 7, 3) := by decide +kernel
theorem d3_118 : decode prog_97_method_6_code 118 = .ok (.iconst 1, 1) := by decide +kernel
theorem d3_119 : decode prog_97_method_6_code 119 = .ok (.goto 4, 3) := by decide +kernel
theorem d3_122 : decode prog_97_method_6_code 122 = .ok (.iconst 0, 1) := by decide +kernel
theorem d3_123 : decode prog_97_method_6_code 123 = .ok (.istore 6, 2) := by decide +kernel
theorem d3_125 : decode prog_97_method_6_code 125 = .ok (.iconst 2, 1) := by decide +kernel
theorem d3_126 : decode prog_97_method_6_code 126 = .ok (.istore 7, 2) := by decide +kernel
theorem d3_128 : decode prog_97_method_6_code 128 = .ok (.iload 7, 2) := by decide +kernel
theorem d3_130 : decode prog_97_method_6_code 130 = .ok (.iload_n 2, 1) := by decide +kernel
theorem d3_131 : decode prog_97_method_6_code 131 = .ok (.if_icmp .ge 31, 3) := by decide +kernel
theorem d3_134 : decode prog_97_method_6_code 134 = .ok (.iload 6, 2) := by decide +kernel
theorem d3_136 : decode prog_97_method_6_code 136 = .ok (.ifCond .eq 26, 3) := by decide +kernel
theorem d3_139 : decode prog_97_method_6_code 139 = .ok (.aload_n 0, 1) := by decide +kernel
theorem d3_140 : decode prog_97_method_6_code 140 = .ok (.iload_n 1, 1) := by decide +kernel
theorem d3_141 : decode prog_97_method_6_code 141 = .ok (.iload 7, 2) := by decide +kernel
theorem d3_143 : decode prog_97_method_6_code 143 = .ok (.iadd, 1) := by decide +kernel
theorem d3_144 : decode prog_97_method_6_code 144 = .ok (.baload, 1) := by decide +kernel
theorem d3_145 : decode prog_97_method_6_code 145 = .ok (.sipush 128, 3) := by decide +kernel
theorem d3_148 : decode prog_97_method_6_code 148 = .ok (.sipush 191, 3) := by decide +kernel
theorem d3_151 : decode prog_97_method_6_code 151 = .ok (.invokestatic 52, 3) := by decide +kernel
theorem d3_154 : decode prog_97_method_6_code 154 = .ok (.istore 6, 2) := by decide +kernel
theorem d3_156 : decode prog_97_method_6_code 156 = .ok (.iinc 7 1, 3) := by decide +kernel
theorem d3_159 : decode prog_97_method_6_code 159 = .ok (.goto (-31), 3) := by decide +kernel
theorem d3_162 : decode prog_97_method_6_code 162 = .ok (.iload 6, 2) := by decide +kernel
theorem d3_164 : decode prog_97_method_6_code 164 = .ok (.ireturn, 1) := by decide +kernel
theorem own_ef3 (m : MethodId) (x0 : Addr) (x1 : Int32) (x2 : Int32) : entryFrame m #[(.ref x0), (.int x1), (.int x2)] 8 = mkF m 0 #[.val (.ref x0), .val (.int x1), .val (.int x2), .unset, .unset, .unset, .unset, .unset] [] := by first | (simp [entryFrame, mkF, argsToLocals, Value.category, maxLocals]; done) | rfl
def Qrm3_1 (Z : State) (a1 : Addr) (p2 : Int32) (k1 : ClassId) (bs : List Int32) (h0 : Heap) (n0 : Nat) : Option Value → Heap → List Loc → Prop := fun v h L => v = some (.int (own_cn1)) ∧ Fr n0 L ∧ h = h0
set_option maxRecDepth 65536 in
set_option maxHeartbeats 40000000 in
theorem rm3_1 (l : Launch) (Z : State) (a0 : Array Value) (hw : ∀ d ∈ tables_1, d.before a0 Z = true) (ws : List Jvm.Cond) (a1 : Addr) (p2 : Int32) (k1 : ClassId) (bs : List Int32) (h0 : Heap) (n0 : Nat) (Z0 : n0 ≤ h0.size) (V1 : Arv Z h0 a1 k1 .byte (6 : Int32) (bs.map Value.int) (.int 0)) (hi0 : 0 ≤ p2.toInt) (hi6 : p2.toInt + 1 ≤ 6) :
    MetFree l (⟨"com/example/slicewright/slicewright/runtime/Utf8", "continues", "([BII)Z"⟩ : MethodName) (head1 (Jvm.Cond.code (⟨"com/example/slicewright/slicewright/runtime/Utf8", "continues", "([BII)Z"⟩ : MethodName) prog_97_method_6_code 8 (some .boolean) :: ws) ({ frames := 1, cells := 0, slots := 0, locals := 20 } : Room)) (fun a U => a = #[(.ref a1), (.int p2), (.int (1 : Int32))] ∧ Z.Warmed39 U.vm ∧ U.heap = h0) (fun _ _ _ _ _ => True) (fun _ U o U' => ∃ v L, o = .returned v ∧ (Qrm3_1 Z a1 p2 k1 bs h0 n0) v U'.heap L ∧ FrameEnd U o U' L ({ frames := 1, cells := 0, slots := 0, locals := 20 } : Room).cells ({ frames := 1, cells := 0, slots := 0, locals := 20 } : Room).slots) := by
  refine MetFree.of_bodySF own_pn2 hisR ?_
  intro p ev s m args below meth c s₁ Bd hml0 hP hK
  obtain ⟨rfl, hZ, hh⟩ := hP
  have hx := Bd.exec
  have hby := Bd.bytes
  have hlk := Bd.notSynchronized
  have hml : c.maxLocals = 8 := hml0
  have hown : s.vm.findClass "com/example/slicewright/slicewright/runtime/Utf8" = some m.cls := findClass_of_methodNamed Bd.named
  have hnm := (name_of_methodNamed Bd.named Bd.method).1
  have X0 : Stand p l ev ({ frames := 1, cells := 0, slots := 0, locals := 20 } : Room) s m #[(.ref a1), (.int p2), (.int (1 : Int32))] below meth c s₁ [] 0 0 := Stand.of_body Bd
  have e0 : s₁.heap = h0 := by rw [← hh, Bd.state]; rfl
  have N0 := Fr.nil n0
  refine Rch.entry (G := (EndQ (Qrm3_1 Z a1 p2 k1 bs h0 n0) s ({ frames := 1, cells := 0, slots := 0, locals := 20 } : Room).cells ({ frames := 1, cells := 0, slots := 0, locals := 20 } : Room).slots)) (own_ef3 m a1 p2 (1 : Int32)) ?_
  have hbool : ∀ x : Int32, nar .boolean x = x &&& 1 := fun _ => rfl
  show Rch p ev below _ s₁ (mkF m 0 #[.val (.ref a1), .val (.int p2), .val (.int (1 : Int32)), .unset, .unset, .unset, .unset, .unset] [])
  have tail : ∀ (lo hi : Int32) (hlo : own_lo (own_c bs p2 0) = lo) (hhi : own_hi (own_c bs p2 0) = hi), Rch p ev below (EndQ (Qrm3_1 Z a1 p2 k1 bs h0 n0) s ({ frames := 1, cells := 0, slots := 0, locals := 20 } : Room).cells ({ frames := 1, cells := 0, slots := 0, locals := 20 } : Room).slots) s₁ (mkF m 98 #[.val (.ref a1), .val (.int p2), .val (.int (1 : Int32)), .val (.int (own_c bs p2 0)), .val (.int lo), .val (.int hi), .unset, .unset] []) := by
    intro lo hi hlo hhi
    show Rch p ev below _ s₁ (mkF m 98 #[.val (.ref a1), .val (.int p2), .val (.int (1 : Int32)), .val (.int (own_c bs p2 0)), .val (.int lo), .val (.int hi), .unset, .unset] [])
    refine Rch.go (fun _ q => XS.iloadN X0.here hx rfl (hb hby d3_98) rfl  q) ?_
    show Rch p ev below _ s₁ (mkF m 99 #[.val (.ref a1), .val (.int p2), .val (.int (1 : Int32)), .val (.int (own_c bs p2 0)), .val (.int lo), .val (.int hi), .unset, .unset] [(.int (1 : Int32))])
    refine Rch.go (fun _ q => XS.iconst X0.here hx rfl (hb hby d3_99) q) ?_
    show Rch p ev below _ s₁ (mkF m 100 #[.val (.ref a1), .val (.int p2), .val (.int (1 : Int32)), .val (.int (own_c bs p2 0)), .val (.int lo), .val (.int hi), .unset, .unset] [(.int (1 : Int32)), (.int (1 : Int32))])
    refine Rch.go (fun _ q => XS.icmpYes X0.here hx rfl (pc0 := 100) (pc' := 118) rfl (hb hby d3_100) rfl (teq (by decide)).1 (by decide) (by decide) q) ?_
    show Rch p ev below _ s₁ (mkF m 118 #[.val (.ref a1), .val (.int p2), .val (.int (1 : Int32)), .val (.int (own_c bs p2 0)), .val (.int lo), .val (.int hi), .unset, .unset] [])
    refine Rch.go (fun _ q => XS.iconst X0.here hx rfl (hb hby d3_118) q) ?_
    show Rch p ev below _ s₁ (mkF m 119 #[.val (.ref a1), .val (.int p2), .val (.int (1 : Int32)), .val (.int (own_c bs p2 0)), .val (.int lo), .val (.int hi), .unset, .unset] [(.int (1 : Int32))])
    refine Rch.go (fun _ q => XS.goto X0.here hx rfl (pc0 := 119) (pc' := 123) rfl (hb hby d3_119) (by decide) (by decide) q) ?_
    show Rch p ev below _ s₁ (mkF m 123 #[.val (.ref a1), .val (.int p2), .val (.int (1 : Int32)), .val (.int (own_c bs p2 0)), .val (.int lo), .val (.int hi), .unset, .unset] [(.int (1 : Int32))])
    refine Rch.go (fun _ q => XS.istore X0.here hx rfl (hb hby d3_123) rfl (l' := #[.val (.ref a1), .val (.int p2), .val (.int (1 : Int32)), .val (.int (own_c bs p2 0)), .val (.int lo), .val (.int hi), .val (.int (1 : Int32)), .unset]) rfl q) ?_
    show Rch p ev below _ s₁ (mkF m 125 #[.val (.ref a1), .val (.int p2), .val (.int (1 : Int32)), .val (.int (own_c bs p2 0)), .val (.int lo), .val (.int hi), .val (.int (1 : Int32)), .unset] [])
    refine Rch.go (fun _ q => XS.iconst X0.here hx rfl (hb hby d3_125) q) ?_
    show Rch p ev below _ s₁ (mkF m 126 #[.val (.ref a1), .val (.int p2), .val (.int (1 : Int32)), .val (.int (own_c bs p2 0)), .val (.int lo), .val (.int hi), .val (.int (1 : Int32)), .unset] [(.int (2 : Int32))])
    refine Rch.go (fun _ q => XS.istore X0.here hx rfl (hb hby d3_126) rfl (l' := #[.val (.ref a1), .val (.int p2), .val (.int (1 : Int32)), .val (.int (own_c bs p2 0)), .val (.int lo), .val (.int hi), .val (.int (1 : Int32)), .val (.int (2 : Int32))]) rfl q) ?_
    show Rch p ev below _ s₁ (mkF m 128 #[.val (.ref a1), .val (.int p2), .val (.int (1 : Int32)), .val (.int (own_c bs p2 0)), .val (.int lo), .val (.int hi), .val (.int (1 : Int32)), .val (.int (2 : Int32))] [])
    refine Rch.go (fun _ q => XS.iload X0.here hx rfl (hb hby d3_128) rfl  q) ?_
    show Rch p ev below _ s₁ (mkF m 130 #[.val (.ref a1), .val (.int p2), .val (.int (1 : Int32)), .val (.int (own_c bs p2 0)), .val (.int lo), .val (.int hi), .val (.int (1 : Int32)), .val (.int (2 : Int32))] [(.int (2 : Int32))])
    refine Rch.go (fun _ q => XS.iloadN X0.here hx rfl (hb hby d3_130) rfl  q) ?_
    show Rch p ev below _ s₁ (mkF m 131 #[.val (.ref a1), .val (.int p2), .val (.int (1 : Int32)), .val (.int (own_c bs p2 0)), .val (.int lo), .val (.int hi), .val (.int (1 : Int32)), .val (.int (2 : Int32))] [(.int (1 : Int32)), (.int (2 : Int32))])
    refine Rch.go (fun _ q => XS.icmpYes X0.here hx rfl (pc0 := 131) (pc' := 162) rfl (hb hby d3_131) rfl (flt (by decide)).2.1 (by decide) (by decide) q) ?_
    show Rch p ev below _ s₁ (mkF m 162 #[.val (.ref a1), .val (.int p2), .val (.int (1 : Int32)), .val (.int (own_c bs p2 0)), .val (.int lo), .val (.int hi), .val (.int (1 : Int32)), .val (.int (2 : Int32))] [])
    refine Rch.go (fun _ q => XS.iload X0.here hx rfl (hb hby d3_162) rfl  q) ?_
    show Rch p ev below _ s₁ (mkF m 164 #[.val (.ref a1), .val (.int p2), .val (.int (1 : Int32)), .val (.int (own_c bs p2 0)), .val (.int lo), .val (.int hi), .val (.int (1 : Int32)), .val (.int (2 : Int32))] [(.int (1 : Int32))])
    refine Rch.retZ X0 hx hlk Bd.returns (hb hby d3_164) (by decide) (by decide) ?_
    unfold Qrm3_1
    exact ⟨by simp only [own_cn1, own_cn2, own_cn3, own_cn4, hlo, hhi, own_ir_n,  if_true, if_false]; first | done | rfl, N0, e0⟩
  refine Rch.go (fun _ q => XS.aloadN X0.here hx rfl (hb hby d3_0) rfl rfl q) ?_
  show Rch p ev below _ s₁ (mkF m 1 #[.val (.ref a1), .val (.int p2), .val (.int (1 : Int32)), .unset, .unset, .unset, .unset, .unset] [(.ref a1)])
  refine Rch.go (fun _ q => XS.iloadN X0.here hx rfl (hb hby d3_1) rfl  q) ?_
  show Rch p ev below _ s₁ (mkF m 2 #[.val (.ref a1), .val (.int p2), .val (.int (1 : Int32)), .unset, .unset, .unset, .unset, .unset] [(.int p2), (.ref a1)])
  refine Rch.go (fun _ q => ldB X0 hx hZ e0 V1 (j := p2) (v := (.int (bs.getD (p2.toNatClampNeg + 0) 0))) (own_j0 p2 hi0 (by omega)) (own_rd bs _) (g := (mkF m 2 #[.val (.ref a1), .val (.int p2), .val (.int (1 : Int32)), .unset, .unset, .unset, .unset, .unset] [(.int p2), (.ref a1)])) rfl rfl (hb hby d3_2) _ q) ?_
  show Rch p ev below _ s₁ (mkF m 3 #[.val (.ref a1), .val (.int p2), .val (.int (1 : Int32)), .unset, .unset, .unset, .unset, .unset] [(.int (bs.getD (p2.toNatClampNeg + 0) 0))])
  refine Rch.go (fun _ q => XS.sipush X0.here hx rfl (hb hby d3_3) q) ?_
  show Rch p ev below _ s₁ (mkF m 6 #[.val (.ref a1), .val (.int p2), .val (.int (1 : Int32)), .unset, .unset, .unset, .unset, .unset] [(.int (255 : Int32)), (.int (bs.getD (p2.toNatClampNeg + 0) 0))])
  refine Rch.go (fun _ q => XS.iand X0.here hx rfl (hb hby d3_6) rfl q) ?_
  show Rch p ev below _ s₁ (mkF m 7 #[.val (.ref a1), .val (.int p2), .val (.int (1 : Int32)), .unset, .unset, .unset, .unset, .unset] [(.int ((bs.getD (p2.toNatClampNeg + 0) 0) &&& (255 : Int32)))])
  refine Rch.go (fun _ q => XS.istoreN X0.here hx rfl (hb hby d3_7) rfl (l' := #[.val (.ref a1), .val (.int p2), .val (.int (1 : Int32)), .val (.int ((bs.getD (p2.toNatClampNeg + 0) 0) &&& (255 : Int32))), .unset, .unset, .unset, .unset]) rfl q) ?_
  show Rch p ev below _ s₁ (mkF m 8 #[.val (.ref a1), .val (.int p2), .val (.int (1 : Int32)), .val (.int ((bs.getD (p2.toNatClampNeg + 0) 0) &&& (255 : Int32))), .unset, .unset, .unset, .unset] [])
  show Rch p ev below _ s₁ (mkF m 8 #[.val (.ref a1), .val (.int p2), .val (.int (1 : Int32)), .val (.int (own_c bs p2 0)), .unset, .unset, .unset, .unset] [])
  refine Rch.go (fun _ q => XS.iloadN X0.here hx rfl (hb hby d3_8) rfl  q) ?_
  show Rch p ev below _ s₁ (mkF m 9 #[.val (.ref a1), .val (.int p2), .val (.int (1 : Int32)), .val (.int (own_c bs p2 0)), .unset, .unset, .unset, .unset] [(.int (own_c bs p2 0))])
  refine Rch.go (fun _ q => XS.sipush X0.here hx rfl (hb hby d3_9) q) ?_
  show Rch p ev below _ s₁ (mkF m 12 #[.val (.ref a1), .val (.int p2), .val (.int (1 : Int32)), .val (.int (own_c bs p2 0)), .unset, .unset, .unset, .unset] [(.int (224 : Int32)), (.int (own_c bs p2 0))])
  by_cases hc12 : (own_c bs p2 0) = (224 : Int32)
  · skip
    refine Rch.go (fun _ q => XS.icmpNo X0.here hx rfl (hb hby d3_12) rfl (teq hc12).2 q) ?_
    show Rch p ev below _ s₁ (mkF m 15 #[.val (.ref a1), .val (.int p2), .val (.int (1 : Int32)), .val (.int (own_c bs p2 0)), .unset, .unset, .unset, .unset] [])
    refine Rch.go (fun _ q => XS.sipush X0.here hx rfl (hb hby d3_15) q) ?_
    show Rch p ev below _ s₁ (mkF m 18 #[.val (.ref a1), .val (.int p2), .val (.int (1 : Int32)), .val (.int (own_c bs p2 0)), .unset, .unset, .unset, .unset] [(.int (160 : Int32))])
    refine Rch.go (fun _ q => XS.istore X0.here hx rfl (hb hby d3_18) rfl (l' := #[.val (.ref a1), .val (.int p2), .val (.int (1 : Int32)), .val (.int (own_c bs p2 0)), .val (.int (160 : Int32)), .unset, .unset, .unset]) rfl q) ?_
    show Rch p ev below _ s₁ (mkF m 20 #[.val (.ref a1), .val (.int p2), .val (.int (1 : Int32)), .val (.int (own_c bs p2 0)), .val (.int (160 : Int32)), .unset, .unset, .unset] [])
    refine Rch.go (fun _ q => XS.sipush X0.here hx rfl (hb hby d3_20) q) ?_
    show Rch p ev below _ s₁ (mkF m 23 #[.val (.ref a1), .val (.int p2), .val (.int (1 : Int32)), .val (.int (own_c bs p2 0)), .val (.int (160 : Int32)), .unset, .unset, .unset] [(.int (191 : Int32))])
    refine Rch.go (fun _ q => XS.istore X0.here hx rfl (hb hby d3_23) rfl (l' := #[.val (.ref a1), .val (.int p2), .val (.int (1 : Int32)), .val (.int (own_c bs p2 0)), .val (.int (160 : Int32)), .val (.int (191 : Int32)), .unset, .unset]) rfl q) ?_
    show Rch p ev below _ s₁ (mkF m 25 #[.val (.ref a1), .val (.int p2), .val (.int (1 : Int32)), .val (.int (own_c bs p2 0)), .val (.int (160 : Int32)), .val (.int (191 : Int32)), .unset, .unset] [])
    refine Rch.go (fun _ q => XS.goto X0.here hx rfl (pc0 := 25) (pc' := 98) rfl (hb hby d3_25) (by decide) (by decide) q) ?_
    show Rch p ev below _ s₁ (mkF m 98 #[.val (.ref a1), .val (.int p2), .val (.int (1 : Int32)), .val (.int (own_c bs p2 0)), .val (.int (160 : Int32)), .val (.int (191 : Int32)), .unset, .unset] [])
    exact tail _ _ (by simp only [own_lo, hc12, if_true, if_false]; first | done | rfl | decide) (by simp only [own_hi, hc12, if_true, if_false]; first | done | rfl | decide)
  · skip
    refine Rch.go (fun _ q => XS.icmpYes X0.here hx rfl (pc0 := 12) (pc' := 28) rfl (hb hby d3_12) rfl (feq hc12).2 (by decide) (by decide) q) ?_
    show Rch p ev below _ s₁ (mkF m 28 #[.val (.ref a1), .val (.int p2), .val (.int (1 : Int32)), .val (.int (own_c bs p2 0)), .unset, .unset, .unset, .unset] [])
    refine Rch.go (fun _ q => XS.iloadN X0.here hx rfl (hb hby d3_28) rfl  q) ?_
    show Rch p ev below _ s₁ (mkF m 29 #[.val (.ref a1), .val (.int p2), .val (.int (1 : Int32)), .val (.int (own_c bs p2 0)), .unset, .unset, .unset, .unset] [(.int (own_c bs p2 0))])
    refine Rch.go (fun _ q => XS.sipush X0.here hx rfl (hb hby d3_29) q) ?_
    show Rch p ev below _ s₁ (mkF m 32 #[.val (.ref a1), .val (.int p2), .val (.int (1 : Int32)), .val (.int (own_c bs p2 0)), .unset, .unset, .unset, .unset] [(.int (237 : Int32)), (.int (own_c bs p2 0))])
    by_cases hc32 : (own_c bs p2 0) = (237 : Int32)
    · skip
      refine Rch.go (fun _ q => XS.icmpNo X0.here hx rfl (hb hby d3_32) rfl (teq hc32).2 q) ?_
      show Rch p ev below _ s₁ (mkF m 35 #[.val (.ref a1), .val (.int p2), .val (.int (1 : Int32)), .val (.int (own_c bs p2 0)), .unset, .unset, .unset, .unset] [])
      refine Rch.go (fun _ q => XS.sipush X0.here hx rfl (hb hby d3_35) q) ?_
      show Rch p ev below _ s₁ (mkF m 38 #[.val (.ref a1), .val (.int p2), .val (.int (1 : Int32)), .val (.int (own_c bs p2 0)), .unset, .unset, .unset, .unset] [(.int (128 : Int32))])
      refine Rch.go (fun _ q => XS.istore X0.here hx rfl (hb hby d3_38) rfl (l' := #[.val (.ref a1), .val (.int p2), .val (.int (1 : Int32)), .val (.int (own_c bs p2 0)), .val (.int (128 : Int32)), .unset, .unset, .unset]) rfl q) ?_
      show Rch p ev below _ s₁ (mkF m 40 #[.val (.ref a1), .val (.int p2), .val (.int (1 : Int32)), .val (.int (own_c bs p2 0)), .val (.int (128 : Int32)), .unset, .unset, .unset] [])
      refine Rch.go (fun _ q => XS.sipush X0.here hx rfl (hb hby d3_40) q) ?_
      show Rch p ev below _ s₁ (mkF m 43 #[.val (.ref a1), .val (.int p2), .val (.int (1 : Int32)), .val (.int (own_c bs p2 0)), .val (.int (128 : Int32)), .unset, .unset, .unset] [(.int (159 : Int32))])
      refine Rch.go (fun _ q => XS.istore X0.here hx rfl (hb hby d3_43) rfl (l' := #[.val (.ref a1), .val (.int p2), .val (.int (1 : Int32)), .val (.int (own_c bs p2 0)), .val (.int (128 : Int32)), .val (.int (159 : Int32)), .unset, .unset]) rfl q) ?_
      show Rch p ev below _ s₁ (mkF m 45 #[.val (.ref a1), .val (.int p2), .val (.int (1 : Int32)), .val (.int (own_c bs p2 0)), .val (.int (128 : Int32)), .val (.int (159 : Int32)), .unset, .unset] [])
      refine Rch.go (fun _ q => XS.goto X0.here hx rfl (pc0 := 45) (pc' := 98) rfl (hb hby d3_45) (by decide) (by decide) q) ?_
      show Rch p ev below _ s₁ (mkF m 98 #[.val (.ref a1), .val (.int p2), .val (.int (1 : Int32)), .val (.int (own_c bs p2 0)), .val (.int (128 : Int32)), .val (.int (159 : Int32)), .unset, .unset] [])
      exact tail _ _ (by simp only [own_lo, hc12, hc32, if_true, if_false]; first | done | rfl | decide) (by simp only [own_hi, hc12, hc32, if_true, if_false]; first | done | rfl | decide)
    · skip
      refine Rch.go (fun _ q => XS.icmpYes X0.here hx rfl (pc0 := 32) (pc' := 48) rfl (hb hby d3_32) rfl (feq hc32).2 (by decide) (by decide) q) ?_
      show Rch p ev below _ s₁ (mkF m 48 #[.val (.ref a1), .val (.int p2), .val (.int (1 : Int32)), .val (.int (own_c bs p2 0)), .unset, .unset, .unset, .unset] [])
      refine Rch.go (fun _ q => XS.iloadN X0.here hx rfl (hb hby d3_48) rfl  q) ?_
      show Rch p ev below _ s₁ (mkF m 49 #[.val (.ref a1), .val (.int p2), .val (.int (1 : Int32)), .val (.int (own_c bs p2 0)), .unset, .unset, .unset, .unset] [(.int (own_c bs p2 0))])
      refine Rch.go (fun _ q => XS.sipush X0.here hx rfl (hb hby d3_49) q) ?_
      show Rch p ev below _ s₁ (mkF m 52 #[.val (.ref a1), .val (.int p2), .val (.int (1 : Int32)), .val (.int (own_c bs p2 0)), .unset, .unset, .unset, .unset] [(.int (240 : Int32)), (.int (own_c bs p2 0))])
      by_cases hc52 : (own_c bs p2 0) = (240 : Int32)
      · skip
        refine Rch.go (fun _ q => XS.icmpNo X0.here hx rfl (hb hby d3_52) rfl (teq hc52).2 q) ?_
        show Rch p ev below _ s₁ (mkF m 55 #[.val (.ref a1), .val (.int p2), .val (.int (1 : Int32)), .val (.int (own_c bs p2 0)), .unset, .unset, .unset, .unset] [])
        refine Rch.go (fun _ q => XS.sipush X0.here hx rfl (hb hby d3_55) q) ?_
        show Rch p ev below _ s₁ (mkF m 58 #[.val (.ref a1), .val (.int p2), .val (.int (1 : Int32)), .val (.int (own_c bs p2 0)), .unset, .unset, .unset, .unset] [(.int (144 : Int32))])
        refine Rch.go (fun _ q => XS.istore X0.here hx rfl (hb hby d3_58) rfl (l' := #[.val (.ref a1), .val (.int p2), .val (.int (1 : Int32)), .val (.int (own_c bs p2 0)), .val (.int (144 : Int32)), .unset, .unset, .unset]) rfl q) ?_
        show Rch p ev below _ s₁ (mkF m 60 #[.val (.ref a1), .val (.int p2), .val (.int (1 : Int32)), .val (.int (own_c bs p2 0)), .val (.int (144 : Int32)), .unset, .unset, .unset] [])
        refine Rch.go (fun _ q => XS.sipush X0.here hx rfl (hb hby d3_60) q) ?_
        show Rch p ev below _ s₁ (mkF m 63 #[.val (.ref a1), .val (.int p2), .val (.int (1 : Int32)), .val (.int (own_c bs p2 0)), .val (.int (144 : Int32)), .unset, .unset, .unset] [(.int (191 : Int32))])
        refine Rch.go (fun _ q => XS.istore X0.here hx rfl (hb hby d3_63) rfl (l' := #[.val (.ref a1), .val (.int p2), .val (.int (1 : Int32)), .val (.int (own_c bs p2 0)), .val (.int (144 : Int32)), .val (.int (191 : Int32)), .unset, .unset]) rfl q) ?_
        show Rch p ev below _ s₁ (mkF m 65 #[.val (.ref a1), .val (.int p2), .val (.int (1 : Int32)), .val (.int (own_c bs p2 0)), .val (.int (144 : Int32)), .val (.int (191 : Int32)), .unset, .unset] [])
        refine Rch.go (fun _ q => XS.goto X0.here hx rfl (pc0 := 65) (pc' := 98) rfl (hb hby d3_65) (by decide) (by decide) q) ?_
        show Rch p ev below _ s₁ (mkF m 98 #[.val (.ref a1), .val (.int p2), .val (.int (1 : Int32)), .val (.int (own_c bs p2 0)), .val (.int (144 : Int32)), .val (.int (191 : Int32)), .unset, .unset] [])
        exact tail _ _ (by simp only [own_lo, hc12, hc32, hc52, if_true, if_false]; first | done | rfl | decide) (by simp only [own_hi, hc12, hc32, hc52, if_true, if_false]; first | done | rfl | decide)
      · skip
        refine Rch.go (fun _ q => XS.icmpYes X0.here hx rfl (pc0 := 52) (pc' := 68) rfl (hb hby d3_52) rfl (feq hc52).2 (by decide) (by decide) q) ?_
        show Rch p ev below _ s₁ (mkF m 68 #[.val (.ref a1), .val (.int p2), .val (.int (1 : Int32)), .val (.int (own_c bs p2 0)), .unset, .unset, .unset, .unset] [])
        refine Rch.go (fun _ q => XS.iloadN X0.here hx rfl (hb hby d3_68) rfl  q) ?_
        show Rch p ev below _ s₁ (mkF m 69 #[.val (.ref a1), .val (.int p2), .val (.int (1 : Int32)), .val (.int (own_c bs p2 0)), .unset, .unset, .unset, .unset] [(.int (own_c bs p2 0))])
        refine Rch.go (fun _ q => XS.sipush X0.here hx rfl (hb hby d3_69) q) ?_
        show Rch p ev below _ s₁ (mkF m 72 #[.val (.ref a1), .val (.int p2), .val (.int (1 : Int32)), .val (.int (own_c bs p2 0)), .unset, .unset, .unset, .unset] [(.int (244 : Int32)), (.int (own_c bs p2 0))])
        by_cases hc72 : (own_c bs p2 0) = (244 : Int32)
        · skip
          refine Rch.go (fun _ q => XS.icmpNo X0.here hx rfl (hb hby d3_72) rfl (teq hc72).2 q) ?_
          show Rch p ev below _ s₁ (mkF m 75 #[.val (.ref a1), .val (.int p2), .val (.int (1 : Int32)), .val (.int (own_c bs p2 0)), .unset, .unset, .unset, .unset] [])
          refine Rch.go (fun _ q => XS.sipush X0.here hx rfl (hb hby d3_75) q) ?_
          show Rch p ev below _ s₁ (mkF m 78 #[.val (.ref a1), .val (.int p2), .val (.int (1 : Int32)), .val (.int (own_c bs p2 0)), .unset, .unset, .unset, .unset] [(.int (128 : Int32))])
          refine Rch.go (fun _ q => XS.istore X0.here hx rfl (hb hby d3_78) rfl (l' := #[.val (.ref a1), .val (.int p2), .val (.int (1 : Int32)), .val (.int (own_c bs p2 0)), .val (.int (128 : Int32)), .unset, .unset, .unset]) rfl q) ?_
          show Rch p ev below _ s₁ (mkF m 80 #[.val (.ref a1), .val (.int p2), .val (.int (1 : Int32)), .val (.int (own_c bs p2 0)), .val (.int (128 : Int32)), .unset, .unset, .unset] [])
          refine Rch.go (fun _ q => XS.sipush X0.here hx rfl (hb hby d3_80) q) ?_
          show Rch p ev below _ s₁ (mkF m 83 #[.val (.ref a1), .val (.int p2), .val (.int (1 : Int32)), .val (.int (own_c bs p2 0)), .val (.int (128 : Int32)), .unset, .unset, .unset] [(.int (143 : Int32))])
          refine Rch.go (fun _ q => XS.istore X0.here hx rfl (hb hby d3_83) rfl (l' := #[.val (.ref a1), .val (.int p2), .val (.int (1 : Int32)), .val (.int (own_c bs p2 0)), .val (.int (128 : Int32)), .val (.int (143 : Int32)), .unset, .unset]) rfl q) ?_
          show Rch p ev below _ s₁ (mkF m 85 #[.val (.ref a1), .val (.int p2), .val (.int (1 : Int32)), .val (.int (own_c bs p2 0)), .val (.int (128 : Int32)), .val (.int (143 : Int32)), .unset, .unset] [])
          refine Rch.go (fun _ q => XS.goto X0.here hx rfl (pc0 := 85) (pc' := 98) rfl (hb hby d3_85) (by decide) (by decide) q) ?_
          show Rch p ev below _ s₁ (mkF m 98 #[.val (.ref a1), .val (.int p2), .val (.int (1 : Int32)), .val (.int (own_c bs p2 0)), .val (.int (128 : Int32)), .val (.int (143 : Int32)), .unset, .unset] [])
          exact tail _ _ (by simp only [own_lo, hc12, hc32, hc52, hc72, if_true, if_false]; first | done | rfl | decide) (by simp only [own_hi, hc12, hc32, hc52, hc72, if_true, if_false]; first | done | rfl | decide)
        · skip
          refine Rch.go (fun _ q => XS.icmpYes X0.here hx rfl (pc0 := 72) (pc' := 88) rfl (hb hby d3_72) rfl (feq hc72).2 (by decide) (by decide) q) ?_
          show Rch p ev below _ s₁ (mkF m 88 #[.val (.ref a1), .val (.int p2), .val (.int (1 : Int32)), .val (.int (own_c bs p2 0)), .unset, .unset, .unset, .unset] [])
          refine Rch.go (fun _ q => XS.sipush X0.here hx rfl (hb hby d3_88) q) ?_
          show Rch p ev below _ s₁ (mkF m 91 #[.val (.ref a1), .val (.int p2), .val (.int (1 : Int32)), .val (.int (own_c bs p2 0)), .unset, .unset, .unset, .unset] [(.int (128 : Int32))])
          refine Rch.go (fun _ q => XS.istore X0.here hx rfl (hb hby d3_91) rfl (l' := #[.val (.ref a1), .val (.int p2), .val (.int (1 : Int32)), .val (.int (own_c bs p2 0)), .val (.int (128 : Int32)), .unset, .unset, .unset]) rfl q) ?_
          show Rch p ev below _ s₁ (mkF m 93 #[.val (.ref a1), .val (.int p2), .val (.int (1 : Int32)), .val (.int (own_c bs p2 0)), .val (.int (128 : Int32)), .unset, .unset, .unset] [])
          refine Rch.go (fun _ q => XS.sipush X0.here hx rfl (hb hby d3_93) q) ?_
          show Rch p ev below _ s₁ (mkF m 96 #[.val (.ref a1), .val (.int p2), .val (.int (1 : Int32)), .val (.int (own_c bs p2 0)), .val (.int (128 : Int32)), .unset, .unset, .unset] [(.int (191 : Int32))])
          refine Rch.go (fun _ q => XS.istore X0.here hx rfl (hb hby d3_96) rfl (l' := #[.val (.ref a1), .val (.int p2), .val (.int (1 : Int32)), .val (.int (own_c bs p2 0)), .val (.int (128 : Int32)), .val (.int (191 : Int32)), .unset, .unset]) rfl q) ?_
          show Rch p ev below _ s₁ (mkF m 98 #[.val (.ref a1), .val (.int p2), .val (.int (1 : Int32)), .val (.int (own_c bs p2 0)), .val (.int (128 : Int32)), .val (.int (191 : Int32)), .unset, .unset] [])
          exact tail _ _ (by simp only [own_lo, hc12, hc32, hc52, hc72, if_true, if_false]; first | done | rfl | decide) (by simp only [own_hi, hc12, hc32, hc52, hc72, if_true, if_false]; first | done | rfl | decide)
theorem own_ef4 (m : MethodId) (x0 : Addr) (x1 : Int32) (x2 : Int32) : entryFrame m #[(.ref x0), (.int x1), (.int x2)] 8 = mkF m 0 #[.val (.ref x0), .val (.int x1), .val (.int x2), .unset, .unset, .unset, .unset, .unset] [] := by first | (simp [entryFrame, mkF, argsToLocals, Value.category, maxLocals]; done) | rfl
def Qrm3_2 (Z : State) (a1 : Addr) (p2 : Int32) (k1 : ClassId) (bs : List Int32) (h0 : Heap) (n0 : Nat) : Option Value → Heap → List Loc → Prop := fun v h L => v = some (.int (own_cn2 (own_c bs p2 1) (own_lo (own_c bs p2 0)) (own_hi (own_c bs p2 0)))) ∧ Fr n0 L ∧ h = h0
set_option maxRecDepth 65536 in
set_option maxHeartbeats 40000000 in
theorem rm3_2 (l : Launch) (Z : State) (a0 : Array Value) (hw : ∀ d ∈ tables_1, d.before a0 Z = true) (ws : List Jvm.Cond) (a1 : Addr) (p2 : Int32) (k1 : ClassId) (bs : List Int32) (h0 : Heap) (n0 : Nat) (Z0 : n0 ≤ h0.size) (V1 : Arv Z h0 a1 k1 .byte (6 : Int32) (bs.map Value.int) (.int 0)) (hi0 : 0 ≤ p2.toInt) (hi6 : p2.toInt + 2 ≤ 6) :
    MetFree l (⟨"com/example/slicewright/slicewright/runtime/Utf8", "continues", "([BII)Z"⟩ : MethodName) (head1 (Jvm.Cond.code (⟨"com/example/slicewright/slicewright/runtime/Utf8", "continues", "([BII)Z"⟩ : MethodName) prog_97_method_6_code 8 (some .boolean) :: ws) ({ frames := 1, cells := 0, slots := 0, locals := 20 } : Room)) (fun a U => a = #[(.ref a1), (.int p2), (.int (2 : Int32))] ∧ Z.Warmed39 U.vm ∧ U.heap = h0) (fun _ _ _ _ _ => True) (fun _ U o U' => ∃ v L, o = .returned v ∧ (Qrm3_2 Z a1 p2 k1 bs h0 n0) v U'.heap L ∧ FrameEnd U o U' L ({ frames := 1, cells := 0, slots := 0, locals := 20 } : Room).cells ({ frames := 1, cells := 0, slots := 0, locals := 20 } : Room).slots) := by
  refine MetFree.of_bodySF own_pn2 hisR ?_
  intro p ev s m args below meth c s₁ Bd hml0 hP hK
  obtain ⟨rfl, hZ, hh⟩ := hP
  have hx := Bd.exec
  have hby := Bd.bytes
  have hlk := Bd.notSynchronized
  have hml : c.maxLocals = 8 := hml0
  have hown : s.vm.findClass "com/example/slicewright/slicewright/runtime/Utf8" = some m.cls := findClass_of_methodNamed Bd.named
  have hnm := (name_of_methodNamed Bd.named Bd.method).1
  have X0 : Stand p l ev ({ frames := 1, cells := 0, slots := 0, locals := 20 } : Room) s m #[(.ref a1), (.int p2), (.int (2 : Int32))] below meth c s₁ [] 0 0 := Stand.of_body Bd
  have e0 : s₁.heap = h0 := by rw [← hh, Bd.state]; rfl
  have N0 := Fr.nil n0
  refine Rch.entry (G := (EndQ (Qrm3_2 Z a1 p2 k1 bs h0 n0) s ({ frames := 1, cells := 0, slots := 0, locals := 20 } : Room).cells ({ frames := 1, cells := 0, slots := 0, locals := 20 } : Room).slots)) (own_ef4 m a1 p2 (2 : Int32)) ?_
  have hbool : ∀ x : Int32, nar .boolean x = x &&& 1 := fun _ => rfl
  show Rch p ev below _ s₁ (mkF m 0 #[.val (.ref a1), .val (.int p2), .val (.int (2 : Int32)), .unset, .unset, .unset, .unset, .unset] [])
  have tail : ∀ (lo hi : Int32) (hlo : own_lo (own_c bs p2 0) = lo) (hhi : own_hi (own_c bs p2 0) = hi), Rch p ev below (EndQ (Qrm3_2 Z a1 p2 k1 bs h0 n0) s ({ frames := 1, cells := 0, slots := 0, locals := 20 } : Room).cells ({ frames := 1, cells := 0, slots := 0, locals := 20 } : Room).slots) s₁ (mkF m 98 #[.val (.ref a1), .val (.int p2), .val (.int (2 : Int32)), .val (.int (own_c bs p2 0)), .val (.int lo), .val (.int hi), .unset, .unset] []) := by
    intro lo hi hlo hhi
    show Rch p ev below _ s₁ (mkF m 98 #[.val (.ref a1), .val (.int p2), .val (.int (2 : Int32)), .val (.int (own_c bs p2 0)), .val (.int lo), .val (.int hi), .unset, .unset] [])
    refine Rch.go (fun _ q => XS.iloadN X0.here hx rfl (hb hby d3_98) rfl  q) ?_
    show Rch p ev below _ s₁ (mkF m 99 #[.val (.ref a1), .val (.int p2), .val (.int (2 : Int32)), .val (.int (own_c bs p2 0)), .val (.int lo), .val (.int hi), .unset, .unset] [(.int (2 : Int32))])
    refine Rch.go (fun _ q => XS.iconst X0.here hx rfl (hb hby d3_99) q) ?_
    show Rch p ev below _ s₁ (mkF m 100 #[.val (.ref a1), .val (.int p2), .val (.int (2 : Int32)), .val (.int (own_c bs p2 0)), .val (.int lo), .val (.int hi), .unset, .unset] [(.int (1 : Int32)), (.int (2 : Int32))])
    refine Rch.go (fun _ q => XS.icmpNo X0.here hx rfl (hb hby d3_100) rfl (feq (by decide)).1 q) ?_
    show Rch p ev below _ s₁ (mkF m 103 #[.val (.ref a1), .val (.int p2), .val (.int (2 : Int32)), .val (.int (own_c bs p2 0)), .val (.int lo), .val (.int hi), .unset, .unset] [])
    refine Rch.go (fun _ q => XS.aloadN X0.here hx rfl (hb hby d3_103) rfl rfl q) ?_
    show Rch p ev below _ s₁ (mkF m 104 #[.val (.ref a1), .val (.int p2), .val (.int (2 : Int32)), .val (.int (own_c bs p2 0)), .val (.int lo), .val (.int hi), .unset, .unset] [(.ref a1)])
    refine Rch.go (fun _ q => XS.iloadN X0.here hx rfl (hb hby d3_104) rfl  q) ?_
    show Rch p ev below _ s₁ (mkF m 105 #[.val (.ref a1), .val (.int p2), .val (.int (2 : Int32)), .val (.int (own_c bs p2 0)), .val (.int lo), .val (.int hi), .unset, .unset] [(.int p2), (.ref a1)])
    refine Rch.go (fun _ q => XS.iconst X0.here hx rfl (hb hby d3_105) q) ?_
    show Rch p ev below _ s₁ (mkF m 106 #[.val (.ref a1), .val (.int p2), .val (.int (2 : Int32)), .val (.int (own_c bs p2 0)), .val (.int lo), .val (.int hi), .unset, .unset] [(.int (1 : Int32)), (.int p2), (.ref a1)])
    refine Rch.go (fun _ q => XS.iadd X0.here hx rfl (hb hby d3_106) rfl q) ?_
    show Rch p ev below _ s₁ (mkF m 107 #[.val (.ref a1), .val (.int p2), .val (.int (2 : Int32)), .val (.int (own_c bs p2 0)), .val (.int lo), .val (.int hi), .unset, .unset] [(.int (p2 + (1 : Int32))), (.ref a1)])
    refine Rch.go (fun _ q => ldB X0 hx hZ e0 V1 (j := (p2 + (1 : Int32))) (v := (.int (bs.getD (p2.toNatClampNeg + 1) 0))) (own_jk p2 (1 : Int32) 1 rfl hi0 (by omega)).1 (by rw [(own_jk p2 (1 : Int32) 1 rfl hi0 (by omega)).2]; exact own_rd bs _) (g := (mkF m 107 #[.val (.ref a1), .val (.int p2), .val (.int (2 : Int32)), .val (.int (own_c bs p2 0)), .val (.int lo), .val (.int hi), .unset, .unset] [(.int (p2 + (1 : Int32))), (.ref a1)])) rfl rfl (hb hby d3_107) _ q) ?_
    show Rch p ev below _ s₁ (mkF m 108 #[.val (.ref a1), .val (.int p2), .val (.int (2 : Int32)), .val (.int (own_c bs p2 0)), .val (.int lo), .val (.int hi), .unset, .unset] [(.int (bs.getD (p2.toNatClampNeg + 1) 0))])
    refine Rch.go (fun _ q => XS.iload X0.here hx rfl (hb hby d3_108) rfl  q) ?_
    show Rch p ev below _ s₁ (mkF m 110 #[.val (.ref a1), .val (.int p2), .val (.int (2 : Int32)), .val (.int (own_c bs p2 0)), .val (.int lo), .val (.int hi), .unset, .unset] [(.int lo), (.int (bs.getD (p2.toNatClampNeg + 1) 0))])
    refine Rch.go (fun _ q => XS.iload X0.here hx rfl (hb hby d3_110) rfl  q) ?_
    show Rch p ev below _ s₁ (mkF m 112 #[.val (.ref a1), .val (.int p2), .val (.int (2 : Int32)), .val (.int (own_c bs p2 0)), .val (.int lo), .val (.int hi), .unset, .unset] [(.int hi), (.int lo), (.int (bs.getD (p2.toNatClampNeg + 1) 0))])
    obtain ⟨_, _, ⟨T101, L101, k101, n101⟩, -, X101, ⟨Lc101, hQ101, l101, y101, z101⟩, st101⟩ := Jvm.LawKit.callS X0 hx (y := (⟨"com/example/slicewright/slicewright/runtime/Utf8", "inRange", "(BII)Z"⟩ : MethodName)) hown (mvT hZ (hw _ (List.mem_of_getElem? (i := 19) rfl))) (mvT hZ (hw _ (List.mem_of_getElem? (i := 20) rfl))) (mvT hZ (hw _ (List.mem_of_getElem? (i := 4) rfl))) (mvT hZ (hw _ (List.mem_of_getElem? (i := 21) rfl))) (by decide) (backOf (W := 0) (rm2 l Z a0 hw [] (bs.getD (p2.toNatClampNeg + 1) 0) lo hi h0 n0 Z0) hZ (hw _ (List.mem_of_getElem? (i := 21) rfl)) (hw _ (List.mem_of_getElem? (i := 4) rfl)) (by decide) (by decide)) (g := (mkF m 112 #[.val (.ref a1), .val (.int p2), .val (.int (2 : Int32)), .val (.int (own_c bs p2 0)), .val (.int lo), .val (.int hi), .unset, .unset] [(.int hi), (.int lo), (.int (bs.getD (p2.toNatClampNeg + 1) 0))])) rfl (by rw [hml]; rfl) (argsL := [(.int (bs.getD (p2.toNatClampNeg + 1) 0)), (.int lo), (.int hi)]) (rest := []) (lenOf own_pd1 rfl) rfl (by show 2 * 0 + _ ≤ _; exact Nat.le_of_eq rfl) (hb hby d3_112) (fun _ _ => ⟨rfl, e0, (by decide : 0 + 0 ≤ _), (by decide : 0 + 0 ≤ _)⟩)
    dsimp only [Pt.U, Pt.locs, Pt.cells, Pt.slots] at X101 l101 y101 z101 st101 hQ101
    subst l101 y101 z101
    obtain ⟨rfl, Nc, ec⟩ := hQ101
    refine Rch.go st101 ?_
    show Rch p ev below _ T101 (mkF m 115 #[.val (.ref a1), .val (.int p2), .val (.int (2 : Int32)), .val (.int (own_c bs p2 0)), .val (.int lo), .val (.int hi), .unset, .unset] [(.int (own_ir (own_c bs p2 1) lo hi))])
    have N101 := Fr.app N0 Nc
    have e101 := ec
    by_cases hc115 : (own_ir (own_c bs p2 1) lo hi) = (0 : Int32)
    · skip
      refine Rch.go (fun _ q => XS.ifYes X101.here hx rfl (pc0 := 115) (pc' := 122) rfl (hb hby d3_115) rfl ((if0 _ _).trans (teq hc115).1) (by decide) (by decide) q) ?_
      show Rch p ev below _ T101 (mkF m 122 #[.val (.ref a1), .val (.int p2), .val (.int (2 : Int32)), .val (.int (own_c bs p2 0)), .val (.int lo), .val (.int hi), .unset, .unset] [])
      refine Rch.go (fun _ q => XS.iconst X101.here hx rfl (hb hby d3_122) q) ?_
      show Rch p ev below _ T101 (mkF m 123 #[.val (.ref a1), .val (.int p2), .val (.int (2 : Int32)), .val (.int (own_c bs p2 0)), .val (.int lo), .val (.int hi), .unset, .unset] [(.int (0 : Int32))])
      refine Rch.go (fun _ q => XS.istore X101.here hx rfl (hb hby d3_123) rfl (l' := #[.val (.ref a1), .val (.int p2), .val (.int (2 : Int32)), .val (.int (own_c bs p2 0)), .val (.int lo), .val (.int hi), .val (.int (0 : Int32)), .unset]) rfl q) ?_
      show Rch p ev below _ T101 (mkF m 125 #[.val (.ref a1), .val (.int p2), .val (.int (2 : Int32)), .val (.int (own_c bs p2 0)), .val (.int lo), .val (.int hi), .val (.int (0 : Int32)), .unset] [])
      refine Rch.go (fun _ q => XS.iconst X101.here hx rfl (hb hby d3_125) q) ?_
      show Rch p ev below _ T101 (mkF m 126 #[.val (.ref a1), .val (.int p2), .val (.int (2 : Int32)), .val (.int (own_c bs p2 0)), .val (.int lo), .val (.int hi), .val (.int (0 : Int32)), .unset] [(.int (2 : Int32))])
      refine Rch.go (fun _ q => XS.istore X101.here hx rfl (hb hby d3_126) rfl (l' := #[.val (.ref a1), .val (.int p2), .val (.int (2 : Int32)), .val (.int (own_c bs p2 0)), .val (.int lo), .val (.int hi), .val (.int (0 : Int32)), .val (.int (2 : Int32))]) rfl q) ?_
      show Rch p ev below _ T101 (mkF m 128 #[.val (.ref a1), .val (.int p2), .val (.int (2 : Int32)), .val (.int (own_c bs p2 0)), .val (.int lo), .val (.int hi), .val (.int (0 : Int32)), .val (.int (2 : Int32))] [])
      refine Rch.go (fun _ q => XS.iload X101.here hx rfl (hb hby d3_128) rfl  q) ?_
      show Rch p ev below _ T101 (mkF m 130 #[.val (.ref a1), .val (.int p2), .val (.int (2 : Int32)), .val (.int (own_c bs p2 0)), .val (.int lo), .val (.int hi), .val (.int (0 : Int32)), .val (.int (2 : Int32))] [(.int (2 : Int32))])
      refine Rch.go (fun _ q => XS.iloadN X101.here hx rfl (hb hby d3_130) rfl  q) ?_
      show Rch p ev below _ T101 (mkF m 131 #[.val (.ref a1), .val (.int p2), .val (.int (2 : Int32)), .val (.int (own_c bs p2 0)), .val (.int lo), .val (.int hi), .val (.int (0 : Int32)), .val (.int (2 : Int32))] [(.int (2 : Int32)), (.int (2 : Int32))])
      refine Rch.go (fun _ q => XS.icmpYes X101.here hx rfl (pc0 := 131) (pc' := 162) rfl (hb hby d3_131) rfl (flt (by decide)).2.1 (by decide) (by decide) q) ?_
      show Rch p ev below _ T101 (mkF m 162 #[.val (.ref a1), .val (.int p2), .val (.int (2 : Int32)), .val (.int (own_c bs p2 0)), .val (.int lo), .val (.int hi), .val (.int (0 : Int32)), .val (.int (2 : Int32))] [])
      refine Rch.go (fun _ q => XS.iload X101.here hx rfl (hb hby d3_162) rfl  q) ?_
      show Rch p ev below _ T101 (mkF m 164 #[.val (.ref a1), .val (.int p2), .val (.int (2 : Int32)), .val (.int (own_c bs p2 0)), .val (.int lo), .val (.int hi), .val (.int (0 : Int32)), .val (.int (2 : Int32))] [(.int (0 : Int32))])
      refine Rch.retZ X101 hx hlk Bd.returns (hb hby d3_164) (by decide) (by decide) ?_
      unfold Qrm3_2
      exact ⟨by simp only [own_cn1, own_cn2, own_cn3, own_cn4, hlo, hhi, own_ir_n, hc115,  if_true, if_false]; first | done | rfl, N101, e101⟩
    · skip
      refine Rch.go (fun _ q => XS.ifNo X101.here hx rfl (hb hby d3_115) rfl ((if0 _ _).trans (feq hc115).1) q) ?_
      show Rch p ev below _ T101 (mkF m 118 #[.val (.ref a1), .val (.int p2), .val (.int (2 : Int32)), .val (.int (own_c bs p2 0)), .val (.int lo), .val (.int hi), .unset, .unset] [])
      refine Rch.go (fun _ q => XS.iconst X101.here hx rfl (hb hby d3_118) q) ?_
      show Rch p ev below _ T101 (mkF m 119 #[.val (.ref a1), .val (.int p2), .val (.int (2 : Int32)), .val (.int (own_c bs p2 0)), .val (.int lo), .val (.int hi), .unset, .unset] [(.int (1 : Int32))])
      refine Rch.go (fun _ q => XS.goto X101.here hx rfl (pc0 := 119) (pc' := 123) rfl (hb hby d3_119) (by decide) (by decide) q) ?_
      show Rch p ev below _ T101 (mkF m 123 #[.val (.ref a1), .val (.int p2), .val (.int (2 : Int32)), .val (.int (own_c bs p2 0)), .val (.int lo), .val (.int hi), .unset, .unset] [(.int (1 : Int32))])
      refine Rch.go (fun _ q => XS.istore X101.here hx rfl (hb hby d3_123) rfl (l' := #[.val (.ref a1), .val (.int p2), .val (.int (2 : Int32)), .val (.int (own_c bs p2 0)), .val (.int lo), .val (.int hi), .val (.int (1 : Int32)), .unset]) rfl q) ?_
      show Rch p ev below _ T101 (mkF m 125 #[.val (.ref a1), .val (.int p2), .val (.int (2 : Int32)), .val (.int (own_c bs p2 0)), .val (.int lo), .val (.int hi), .val (.int (1 : Int32)), .unset] [])
      refine Rch.go (fun _ q => XS.iconst X101.here hx rfl (hb hby d3_125) q) ?_
      show Rch p ev below _ T101 (mkF m 126 #[.val (.ref a1), .val (.int p2), .val (.int (2 : Int32)), .val (.int (own_c bs p2 0)), .val (.int lo), .val (.int hi), .val (.int (1 : Int32)), .unset] [(.int (2 : Int32))])
      refine Rch.go (fun _ q => XS.istore X101.here hx rfl (hb hby d3_126) rfl (l' := #[.val (.ref a1), .val (.int p2), .val (.int (2 : Int32)), .val (.int (own_c bs p2 0)), .val (.int lo), .val (.int hi), .val (.int (1 : Int32)), .val (.int (2 : Int32))]) rfl q) ?_
      show Rch p ev below _ T101 (mkF m 128 #[.val (.ref a1), .val (.int p2), .val (.int (2 : Int32)), .val (.int (own_c bs p2 0)), .val (.int lo), .val (.int hi), .val (.int (1 : Int32)), .val (.int (2 : Int32))] [])
      refine Rch.go (fun _ q => XS.iload X101.here hx rfl (hb hby d3_128) rfl  q) ?_
      show Rch p ev below _ T101 (mkF m 130 #[.val (.ref a1), .val (.int p2), .val (.int (2 : Int32)), .val (.int (own_c bs p2 0)), .val (.int lo), .val (.int hi), .val (.int (1 : Int32)), .val (.int (2 : Int32))] [(.int (2 : Int32))])
      refine Rch.go (fun _ q => XS.iloadN X101.here hx rfl (hb hby d3_130) rfl  q) ?_
      show Rch p ev below _ T101 (mkF m 131 #[.val (.ref a1), .val (.int p2), .val (.int (2 : Int32)), .val (.int (own_c bs p2 0)), .val (.int lo), .val (.int hi), .val (.int (1 : Int32)), .val (.int (2 : Int32))] [(.int (2 : Int32)), (.int (2 : Int32))])
      refine Rch.go (fun _ q => XS.icmpYes X101.here hx rfl (pc0 := 131) (pc' := 162) rfl (hb hby d3_131) rfl (flt (by decide)).2.1 (by decide) (by decide) q) ?_
      show Rch p ev below _ T101 (mkF m 162 #[.val (.ref a1), .val (.int p2), .val (.int (2 : Int32)), .val (.int (own_c bs p2 0)), .val (.int lo), .val (.int hi), .val (.int (1 : Int32)), .val (.int (2 : Int32))] [])
      refine Rch.go (fun _ q => XS.iload X101.here hx rfl (hb hby d3_162) rfl  q) ?_
      show Rch p ev below _ T101 (mkF m 164 #[.val (.ref a1), .val (.int p2), .val (.int (2 : Int32)), .val (.int (own_c bs p2 0)), .val (.int lo), .val (.int hi), .val (.int (1 : Int32)), .val (.int (2 : Int32))] [(.int (1 : Int32))])
      refine Rch.retZ X101 hx hlk Bd.returns (hb hby d3_164) (by decide) (by decide) ?_
      unfold Qrm3_2
      exact ⟨by simp only [own_cn1, own_cn2, own_cn3, own_cn4, hlo, hhi, own_ir_n, hc115,  if_true, if_false]; first | done | rfl, N101, e101⟩
  refine Rch.go (fun _ q => XS.aloadN X0.here hx rfl (hb hby d3_0) rfl rfl q) ?_
  show Rch p ev below _ s₁ (mkF m 1 #[.val (.ref a1), .val (.int p2), .val (.int (2 : Int32)), .unset, .unset, .unset, .unset, .unset] [(.ref a1)])
  refine Rch.go (fun _ q => XS.iloadN X0.here hx rfl (hb hby d3_1) rfl  q) ?_
  show Rch p ev below _ s₁ (mkF m 2 #[.val (.ref a1), .val (.int p2), .val (.int (2 : Int32)), .unset, .unset, .unset, .unset, .unset] [(.int p2), (.ref a1)])
  refine Rch.go (fun _ q => ldB X0 hx hZ e0 V1 (j := p2) (v := (.int (bs.getD (p2.toNatClampNeg + 0) 0))) (own_j0 p2 hi0 (by omega)) (own_rd bs _) (g := (mkF m 2 #[.val (.ref a1), .val (.int p2), .val (.int (2 : Int32)), .unset, .unset, .unset, .unset, .unset] [(.int p2), (.ref a1)])) rfl rfl (hb hby d3_2) _ q) ?_
  show Rch p ev below _ s₁ (mkF m 3 #[.val (.ref a1), .val (.int p2), .val (.int (2 : Int32)), .unset, .unset, .unset, .unset, .unset] [(.int (bs.getD (p2.toNatClampNeg + 0) 0))])
  refine Rch.go (fun _ q => XS.sipush X0.here hx rfl (hb hby d3_3) q) ?_
  show Rch p ev below _ s₁ (mkF m 6 #[.val (.ref a1), .val (.int p2), .val (.int (2 : Int32)), .unset, .unset, .unset, .unset, .unset] [(.int (255 : Int32)), (.int (bs.getD (p2.toNatClampNeg + 0) 0))])
  refine Rch.go (fun _ q => XS.iand X0.here hx rfl (hb hby d3_6) rfl q) ?_
  show Rch p ev below _ s₁ (mkF m 7 #[.val (.ref a1), .val (.int p2), .val (.int (2 : Int32)), .unset, .unset, .unset, .unset, .unset] [(.int ((bs.getD (p2.toNatClampNeg + 0) 0) &&& (255 : Int32)))])
  refine Rch.go (fun _ q => XS.istoreN X0.here hx rfl (hb hby d3_7) rfl (l' := #[.val (.ref a1), .val (.int p2), .val (.int (2 : Int32)), .val (.int ((bs.getD (p2.toNatClampNeg + 0) 0) &&& (255 : Int32))), .unset, .unset, .unset, .unset]) rfl q) ?_
  show Rch p ev below _ s₁ (mkF m 8 #[.val (.ref a1), .val (.int p2), .val (.int (2 : Int32)), .val (.int ((bs.getD (p2.toNatClampNeg + 0) 0) &&& (255 : Int32))), .unset, .unset, .unset, .unset] [])
  show Rch p ev below _ s₁ (mkF m 8 #[.val (.ref a1), .val (.int p2), .val (.int (2 : Int32)), .val (.int (own_c bs p2 0)), .unset, .unset, .unset, .unset] [])
  refine Rch.go (fun _ q => XS.iloadN X0.here hx rfl (hb hby d3_8) rfl  q) ?_
  show Rch p ev below _ s₁ (mkF m 9 #[.val (.ref a1), .val (.int p2), .val (.int (2 : Int32)), .val (.int (own_c bs p2 0)), .unset, .unset, .unset, .unset] [(.int (own_c bs p2 0))])
  refine Rch.go (fun _ q => XS.sipush X0.here hx rfl (hb hby d3_9) q) ?_
  show Rch p ev below _ s₁ (mkF m 12 #[.val (.ref a1), .val (.int p2), .val (.int (2 : Int32)), .val (.int (own_c bs p2 0)), .unset, .unset, .unset, .unset] [(.int (224 : Int32)), (.int (own_c bs p2 0))])
  by_cases hc12 : (own_c bs p2 0) = (224 : Int32)
  · skip
    refine Rch.go (fun _ q => XS.icmpNo X0.here hx rfl (hb hby d3_12) rfl (teq hc12).2 q) ?_
    show Rch p ev below _ s₁ (mkF m 15 #[.val (.ref a1), .val (.int p2), .val (.int (2 : Int32)), .val (.int (own_c bs p2 0)), .unset, .unset, .unset, .unset] [])
    refine Rch.go (fun _ q => XS.sipush X0.here hx rfl (hb hby d3_15) q) ?_
    show Rch p ev below _ s₁ (mkF m 18 #[.val (.ref a1), .val (.int p2), .val (.int (2 : Int32)), .val (.int (own_c bs p2 0)), .unset, .unset, .unset, .unset] [(.int (160 : Int32))])
    refine Rch.go (fun _ q => XS.istore X0.here hx rfl (hb hby d3_18) rfl (l' := #[.val (.ref a1), .val (.int p2), .val (.int (2 : Int32)), .val (.int (own_c bs p2 0)), .val (.int (160 : Int32)), .unset, .unset, .unset]) rfl q) ?_
    show Rch p ev below _ s₁ (mkF m 20 #[.val (.ref a1), .val (.int p2), .val (.int (2 : Int32)), .val (.int (own_c bs p2 0)), .val (.int (160 : Int32)), .unset, .unset, .unset] [])
    refine Rch.go (fun _ q => XS.sipush X0.here hx rfl (hb hby d3_20) q) ?_
    show Rch p ev below _ s₁ (mkF m 23 #[.val (.ref a1), .val (.int p2), .val (.int (2 : Int32)), .val (.int (own_c bs p2 0)), .val (.int (160 : Int32)), .unset, .unset, .unset] [(.int (191 : Int32))])
    refine Rch.go (fun _ q => XS.istore X0.here hx rfl (hb hby d3_23) rfl (l' := #[.val (.ref a1), .val (.int p2), .val (.int (2 : Int32)), .val (.int (own_c bs p2 0)), .val (.int (160 : Int32)), .val (.int (191 : Int32)), .unset, .unset]) rfl q) ?_
    show Rch p ev below _ s₁ (mkF m 25 #[.val (.ref a1), .val (.int p2), .val (.int (2 : Int32)), .val (.int (own_c bs p2 0)), .val (.int (160 : Int32)), .val (.int (191 : Int32)), .unset, .unset] [])
    refine Rch.go (fun _ q => XS.goto X0.here hx rfl (pc0 := 25) (pc' := 98) rfl (hb hby d3_25) (by decide) (by decide) q) ?_
    show Rch p ev below _ s₁ (mkF m 98 #[.val (.ref a1), .val (.int p2), .val (.int (2 : Int32)), .val (.int (own_c bs p2 0)), .val (.int (160 : Int32)), .val (.int (191 : Int32)), .unset, .unset] [])
    exact tail _ _ (by simp only [own_lo, hc12, if_true, if_false]; first | done | rfl | decide) (by simp only [own_hi, hc12, if_true, if_false]; first | done | rfl | decide)
  · skip
    refine Rch.go (fun _ q => XS.icmpYes X0.here hx rfl (pc0 := 12) (pc' := 28) rfl (hb hby d3_12) rfl (feq hc12).2 (by decide) (by decide) q) ?_
    show Rch p ev below _ s₁ (mkF m 28 #[.val (.ref a1), .val (.int p2), .val (.int (2 : Int32)), .val (.int (own_c bs p2 0)), .unset, .unset, .unset, .unset] [])
    refine Rch.go (fun _ q => XS.iloadN X0.here hx rfl (hb hby d3_28) rfl  q) ?_
    show Rch p ev below _ s₁ (mkF m 29 #[.val (.ref a1), .val (.int p2), .val (.int (2 : Int32)), .val (.int (own_c bs p2 0)), .unset, .unset, .unset, .unset] [(.int (own_c bs p2 0))])
    refine Rch.go (fun _ q => XS.sipush X0.here hx rfl (hb hby d3_29) q) ?_
    show Rch p ev below _ s₁ (mkF m 32 #[.val (.ref a1), .val (.int p2), .val (.int (2 : Int32)), .val (.int (own_c bs p2 0)), .unset, .unset, .unset, .unset] [(.int (237 : Int32)), (.int (own_c bs p2 0))])
    by_cases hc32 : (own_c bs p2 0) = (237 : Int32)
    · skip
      refine Rch.go (fun _ q => XS.icmpNo X0.here hx rfl (hb hby d3_32) rfl (teq hc32).2 q) ?_
      show Rch p ev below _ s₁ (mkF m 35 #[.val (.ref a1), .val (.int p2), .val (.int (2 : Int32)), .val (.int (own_c bs p2 0)), .unset, .unset, .unset, .unset] [])
      refine Rch.go (fun _ q => XS.sipush X0.here hx rfl (hb hby d3_35) q) ?_
      show Rch p ev below _ s₁ (mkF m 38 #[.val (.ref a1), .val (.int p2), .val (.int (2 : Int32)), .val (.int (own_c bs p2 0)), .unset, .unset, .unset, .unset] [(.int (128 : Int32))])
      refine Rch.go (fun _ q => XS.istore X0.here hx rfl (hb hby d3_38) rfl (l' := #[.val (.ref a1), .val (.int p2), .val (.int (2 : Int32)), .val (.int (own_c bs p2 0)), .val (.int (128 : Int32)), .unset, .unset, .unset]) rfl q) ?_
      show Rch p ev below _ s₁ (mkF m 40 #[.val (.ref a1), .val (.int p2), .val (.int (2 : Int32)), .val (.int (own_c bs p2 0)), .val (.int (128 : Int32)), .unset, .unset, .unset] [])
      refine Rch.go (fun _ q => XS.sipush X0.here hx rfl (hb hby d3_40) q) ?_
      show Rch p ev below _ s₁ (mkF m 43 #[.val (.ref a1), .val (.int p2), .val (.int (2 : Int32)), .val (.int (own_c bs p2 0)), .val (.int (128 : Int32)), .unset, .unset, .unset] [(.int (159 : Int32))])
      refine Rch.go (fun _ q => XS.istore X0.here hx rfl (hb hby d3_43) rfl (l' := #[.val (.ref a1), .val (.int p2), .val (.int (2 : Int32)), .val (.int (own_c bs p2 0)), .val (.int (128 : Int32)), .val (.int (159 : Int32)), .unset, .unset]) rfl q) ?_
      show Rch p ev below _ s₁ (mkF m 45 #[.val (.ref a1), .val (.int p2), .val (.int (2 : Int32)), .val (.int (own_c bs p2 0)), .val (.int (128 : Int32)), .val (.int (159 : Int32)), .unset, .unset] [])
      refine Rch.go (fun _ q => XS.goto X0.here hx rfl (pc0 := 45) (pc' := 98) rfl (hb hby d3_45) (by decide) (by decide) q) ?_
      show Rch p ev below _ s₁ (mkF m 98 #[.val (.ref a1), .val (.int p2), .val (.int (2 : Int32)), .val (.int (own_c bs p2 0)), .val (.int (128 : Int32)), .val (.int (159 : Int32)), .unset, .unset] [])
      exact tail _ _ (by simp only [own_lo, hc12, hc32, if_true, if_false]; first | done | rfl | decide) (by simp only [own_hi, hc12, hc32, if_true, if_false]; first | done | rfl | decide)
    · skip
      refine Rch.go (fun _ q => XS.icmpYes X0.here hx rfl (pc0 := 32) (pc' := 48) rfl (hb hby d3_32) rfl (feq hc32).2 (by decide) (by decide) q) ?_
      show Rch p ev below _ s₁ (mkF m 48 #[.val (.ref a1), .val (.int p2), .val (.int (2 : Int32)), .val (.int (own_c bs p2 0)), .unset, .unset, .unset, .unset] [])
      refine Rch.go (fun _ q => XS.iloadN X0.here hx rfl (hb hby d3_48) rfl  q) ?_
      show Rch p ev below _ s₁ (mkF m 49 #[.val (.ref a1), .val (.int p2), .val (.int (2 : Int32)), .val (.int (own_c bs p2 0)), .unset, .unset, .unset, .unset] [(.int (own_c bs p2 0))])
      refine Rch.go (fun _ q => XS.sipush X0.here hx rfl (hb hby d3_49) q) ?_
      show Rch p ev below _ s₁ (mkF m 52 #[.val (.ref a1), .val (.int p2), .val (.int (2 : Int32)), .val (.int (own_c bs p2 0)), .unset, .unset, .unset, .unset] [(.int (240 : Int32)), (.int (own_c bs p2 0))])
      by_cases hc52 : (own_c bs p2 0) = (240 : Int32)
      · skip
        refine Rch.go (fun _ q => XS.icmpNo X0.here hx rfl (hb hby d3_52) rfl (teq hc52).2 q) ?_
        show Rch p ev below _ s₁ (mkF m 55 #[.val (.ref a1), .val (.int p2), .val (.int (2 : Int32)), .val (.int (own_c bs p2 0)), .unset, .unset, .unset, .unset] [])
        refine Rch.go (fun _ q => XS.sipush X0.here hx rfl (hb hby d3_55) q) ?_
        show Rch p ev below _ s₁ (mkF m 58 #[.val (.ref a1), .val (.int p2), .val (.int (2 : Int32)), .val (.int (own_c bs p2 0)), .unset, .unset, .unset, .unset] [(.int (144 : Int32))])
        refine Rch.go (fun _ q => XS.istore X0.here hx rfl (hb hby d3_58) rfl (l' := #[.val (.ref a1), .val (.int p2), .val (.int (2 : Int32)), .val (.int (own_c bs p2 0)), .val (.int (144 : Int32)), .unset, .unset, .unset]) rfl q) ?_
        show Rch p ev below _ s₁ (mkF m 60 #[.val (.ref a1), .val (.int p2), .val (.int (2 : Int32)), .val (.int (own_c bs p2 0)), .val (.int (144 : Int32)), .unset, .unset, .unset] [])
        refine Rch.go (fun _ q => XS.sipush X0.here hx rfl (hb hby d3_60) q) ?_
        show Rch p ev below _ s₁ (mkF m 63 #[.val (.ref a1), .val (.int p2), .val (.int (2 : Int32)), .val (.int (own_c bs p2 0)), .val (.int (144 : Int32)), .unset, .unset, .unset] [(.int (191 : Int32))])
        refine Rch.go (fun _ q => XS.istore X0.here hx rfl (hb hby d3_63) rfl (l' := #[.val (.ref a1), .val (.int p2), .val (.int (2 : Int32)), .val (.int (own_c bs p2 0)), .val (.int (144 : Int32)), .val (.int (191 : Int32)), .unset, .unset]) rfl q) ?_
        show Rch p ev below _ s₁ (mkF m 65 #[.val (.ref a1), .val (.int p2), .val (.int (2 : Int32)), .val (.int (own_c bs p2 0)), .val (.int (144 : Int32)), .val (.int (191 : Int32)), .unset, .unset] [])
        refine Rch.go (fun _ q => XS.goto X0.here hx rfl (pc0 := 65) (pc' := 98) rfl (hb hby d3_65) (by decide) (by decide) q) ?_
        show Rch p ev below _ s₁ (mkF m 98 #[.val (.ref a1), .val (.int p2), .val (.int (2 : Int32)), .val (.int (own_c bs p2 0)), .val (.int (144 : Int32)), .val (.int (191 : Int32)), .unset, .unset] [])
        exact tail _ _ (by simp only [own_lo, hc12, hc32, hc52, if_true, if_false]; first | done | rfl | decide) (by simp only [own_hi, hc12, hc32, hc52, if_true, if_false]; first | done | rfl | decide)
      · skip
        refine Rch.go (fun _ q => XS.icmpYes X0.here hx rfl (pc0 := 52) (pc' := 68) rfl (hb hby d3_52) rfl (feq hc52).2 (by decide) (by decide) q) ?_
        show Rch p ev below _ s₁ (mkF m 68 #[.val (.ref a1), .val (.int p2), .val (.int (2 : Int32)), .val (.int (own_c bs p2 0)), .unset, .unset, .unset, .unset] [])
        refine Rch.go (fun _ q => XS.iloadN X0.here hx rfl (hb hby d3_68) rfl  q) ?_
        show Rch p ev below _ s₁ (mkF m 69 #[.val (.ref a1), .val (.int p2), .val (.int (2 : Int32)), .val (.int (own_c bs p2 0)), .unset, .unset, .unset, .unset] [(.int (own_c bs p2 0))])
        refine Rch.go (fun _ q => XS.sipush X0.here hx rfl (hb hby d3_69) q) ?_
        show Rch p ev below _ s₁ (mkF m 72 #[.val (.ref a1), .val (.int p2), .val (.int (2 : Int32)), .val (.int (own_c bs p2 0)), .unset, .unset, .unset, .unset] [(.int (244 : Int32)), (.int (own_c bs p2 0))])
        by_cases hc72 : (own_c bs p2 0) = (244 : Int32)
        · skip
          refine Rch.go (fun _ q => XS.icmpNo X0.here hx rfl (hb hby d3_72) rfl (teq hc72).2 q) ?_
          show Rch p ev below _ s₁ (mkF m 75 #[.val (.ref a1), .val (.int p2), .val (.int (2 : Int32)), .val (.int (own_c bs p2 0)), .unset, .unset, .unset, .unset] [])
          refine Rch.go (fun _ q => XS.sipush X0.here hx rfl (hb hby d3_75) q) ?_
          show Rch p ev below _ s₁ (mkF m 78 #[.val (.ref a1), .val (.int p2), .val (.int (2 : Int32)), .val (.int (own_c bs p2 0)), .unset, .unset, .unset, .unset] [(.int (128 : Int32))])
          refine Rch.go (fun _ q => XS.istore X0.here hx rfl (hb hby d3_78) rfl (l' := #[.val (.ref a1), .val (.int p2), .val (.int (2 : Int32)), .val (.int (own_c bs p2 0)), .val (.int (128 : Int32)), .unset, .unset, .unset]) rfl q) ?_
          show Rch p ev below _ s₁ (mkF m 80 #[.val (.ref a1), .val (.int p2), .val (.int (2 : Int32)), .val (.int (own_c bs p2 0)), .val (.int (128 : Int32)), .unset, .unset, .unset] [])
          refine Rch.go (fun _ q => XS.sipush X0.here hx rfl (hb hby d3_80) q) ?_
          show Rch p ev below _ s₁ (mkF m 83 #[.val (.ref a1), .val (.int p2), .val (.int (2 : Int32)), .val (.int (own_c bs p2 0)), .val (.int (128 : Int32)), .unset, .unset, .unset] [(.int (143 : Int32))])
          refine Rch.go (fun _ q => XS.istore X0.here hx rfl (hb hby d3_83) rfl (l' := #[.val (.ref a1), .val (.int p2), .val (.int (2 : Int32)), .val (.int (own_c bs p2 0)), .val (.int (128 : Int32)), .val (.int (143 : Int32)), .unset, .unset]) rfl q) ?_
          show Rch p ev below _ s₁ (mkF m 85 #[.val (.ref a1), .val (.int p2), .val (.int (2 : Int32)), .val (.int (own_c bs p2 0)), .val (.int (128 : Int32)), .val (.int (143 : Int32)), .unset, .unset] [])
          refine Rch.go (fun _ q => XS.goto X0.here hx rfl (pc0 := 85) (pc' := 98) rfl (hb hby d3_85) (by decide) (by decide) q) ?_
          show Rch p ev below _ s₁ (mkF m 98 #[.val (.ref a1), .val (.int p2), .val (.int (2 : Int32)), .val (.int (own_c bs p2 0)), .val (.int (128 : Int32)), .val (.int (143 : Int32)), .unset, .unset] [])
          exact tail _ _ (by simp only [own_lo, hc12, hc32, hc52, hc72, if_true, if_false]; first | done | rfl | decide) (by simp only [own_hi, hc12, hc32, hc52, hc72, if_true, if_false]; first | done | rfl | decide)
        · skip
          refine Rch.go (fun _ q => XS.icmpYes X0.here hx rfl (pc0 := 72) (pc' := 88) rfl (hb hby d3_72) rfl (feq hc72).2 (by decide) (by decide) q) ?_
          show Rch p ev below _ s₁ (mkF m 88 #[.val (.ref a1), .val (.int p2), .val (.int (2 : Int32)), .val (.int (own_c bs p2 0)), .unset, .unset, .unset, .unset] [])
          refine Rch.go (fun _ q => XS.sipush X0.here hx rfl (hb hby d3_88) q) ?_
          show Rch p ev below _ s₁ (mkF m 91 #[.val (.ref a1), .val (.int p2), .val (.int (2 : Int32)), .val (.int (own_c bs p2 0)), .unset, .unset, .unset, .unset] [(.int (128 : Int32))])
          refine Rch.go (fun _ q => XS.istore X0.here hx rfl (hb hby d3_91) rfl (l' := #[.val (.ref a1), .val (.int p2), .val (.int (2 : Int32)), .val (.int (own_c bs p2 0)), .val (.int (128 : Int32)), .unset, .unset, .unset]) rfl q) ?_
          show Rch p ev below _ s₁ (mkF m 93 #[.val (.ref a1), .val (.int p2), .val (.int (2 : Int32)), .val (.int (own_c bs p2 0)), .val (.int (128 : Int32)), .unset, .unset, .unset] [])
          refine Rch.go (fun _ q => XS.sipush X0.here hx rfl (hb hby d3_93) q) ?_
          show Rch p ev below _ s₁ (mkF m 96 #[.val (.ref a1), .val (.int p2), .val (.int (2 : Int32)), .val (.int (own_c bs p2 0)), .val (.int (128 : Int32)), .unset, .unset, .unset] [(.int (191 : Int32))])
          refine Rch.go (fun _ q => XS.istore X0.here hx rfl (hb hby d3_96) rfl (l' := #[.val (.ref a1), .val (.int p2), .val (.int (2 : Int32)), .val (.int (own_c bs p2 0)), .val (.int (128 : Int32)), .val (.int (191 : Int32)), .unset, .unset]) rfl q) ?_
          show Rch p ev below _ s₁ (mkF m 98 #[.val (.ref a1), .val (.int p2), .val (.int (2 : Int32)), .val (.int (own_c bs p2 0)), .val (.int (128 : Int32)), .val (.int (191 : Int32)), .unset, .unset] [])
          exact tail _ _ (by simp only [own_lo, hc12, hc32, hc52, hc72, if_true, if_false]; first | done | rfl | decide) (by simp only [own_hi, hc12, hc32, hc52, hc72, if_true, if_false]; first | done | rfl | decide)
theorem own_ef5 (m : MethodId) (x0 : Addr) (x1 : Int32) (x2 : Int32) : entryFrame m #[(.ref x0), (.int x1), (.int x2)] 8 = mkF m 0 #[.val (.ref x0), .val (.int x1), .val (.int x2), .unset, .unset, .unset, .unset, .unset] [] := by first | (simp [entryFrame, mkF, argsToLocals, Value.category, maxLocals]; done) | rfl
def Qrm3_3 (Z : State) (a1 : Addr) (p2 : Int32) (k1 : ClassId) (bs : List Int32) (h0 : Heap) (n0 : Nat) : Option Value → Heap → List Loc → Prop := fun v h L => v = some (.int (own_cn3 (own_c bs p2 1) (own_c bs p2 2) (own_lo (own_c bs p2 0)) (own_hi (own_c bs p2 0)))) ∧ Fr n0 L ∧ h = h0
set_option maxRecDepth 65536 in
set_option maxHeartbeats 40000000 in
theorem rm3_3 (l : Launch) (Z : State) (a0 : Array Value) (hw : ∀ d ∈ tables_1, d.before a0 Z = true) (ws : List Jvm.Cond) (a1 : Addr) (p2 : Int32) (k1 : ClassId) (bs : List Int32) (h0 : Heap) (n0 : Nat) (Z0 : n0 ≤ h0.size) (V1 : Arv Z h0 a1 k1 .byte (6 : Int32) (bs.map Value.int) (.int 0)) (hi0 : 0 ≤ p2.toInt) (hi6 : p2.toInt + 3 ≤ 6) :
    MetFree l (⟨"com/example/slicewright/slicewright/runtime/Utf8", "continues", "([BII)Z"⟩ : MethodName) (head1 (Jvm.Cond.code (⟨"com/example/slicewright/slicewright/runtime/Utf8", "continues", "([BII)Z"⟩ : MethodName) prog_97_method_6_code 8 (some .boolean) :: ws) ({ frames := 1, cells := 0, slots := 0, locals := 20 } : Room)) (fun a U => a = #[(.ref a1), (.int p2), (.int (3 : Int32))] ∧ Z.Warmed39 U.vm ∧ U.heap = h0) (fun _ _ _ _ _ => True) (fun _ U o U' => ∃ v L, o = .returned v ∧ (Qrm3_3 Z a1 p2 k1 bs h0 n0) v U'.heap L ∧ FrameEnd U o U' L ({ frames := 1, cells := 0, slots := 0, locals := 20 } : Room).cells ({ frames := 1, cells := 0, slots := 0, locals := 20 } : Room).slots) := by
  refine MetFree.of_bodySF own_pn2 hisR ?_
  intro p ev s m args below meth c s₁ Bd hml0 hP hK
  obtain ⟨rfl, hZ, hh⟩ := hP
  have hx := Bd.exec
  have hby := Bd.bytes
  have hlk := Bd.notSynchronized
  have hml : c.maxLocals = 8 := hml0
  have hown : s.vm.findClass "com/example/slicewright/slicewright/runtime/Utf8" = some m.cls := findClass_of_methodNamed Bd.named
  have hnm := (name_of_methodNamed Bd.named Bd.method).1
  have X0 : Stand p l ev ({ frames := 1, cells := 0, slots := 0, locals := 20 } : Room) s m #[(.ref a1), (.int p2), (.int (3 : Int32))] below meth c s₁ [] 0 0 := Stand.of_body Bd
  have e0 : s₁.heap = h0 := by rw [← hh, Bd.state]; rfl
  have N0 := Fr.nil n0
  refine Rch.entry (G := (EndQ (Qrm3_3 Z a1 p2 k1 bs h0 n0) s ({ frames := 1, cells := 0, slots := 0, locals := 20 } : Room).cells ({ frames := 1, cells := 0, slots := 0, locals := 20 } : Room).slots)) (own_ef5 m a1 p2 (3 : Int32)) ?_
  have hbool : ∀ x : Int32, nar .boolean x = x &&& 1 := fun _ => rfl
  show Rch p ev below _ s₁ (mkF m 0 #[.val (.ref a1), .val (.int p2), .val (.int (3 : Int32)), .unset, .unset, .unset, .unset, .unset] [])
  have tail : ∀ (lo hi : Int32) (hlo : own_lo (own_c bs p2 0) = lo) (hhi : own_hi (own_c bs p2 0) = hi), Rch p ev below (EndQ (Qrm3_3 Z a1 p2 k1 bs h0 n0) s ({ frames := 1, cells := 0, slots := 0, locals := 20 } : Room).cells ({ frames := 1, cells := 0, slots := 0, locals := 20 } : Room).slots) s₁ (mkF m 98 #[.val (.ref a1), .val (.int p2), .val (.int (3 : Int32)), .val (.int (own_c bs p2 0)), .val (.int lo), .val (.int hi), .unset, .unset] []) := by
    intro lo hi hlo hhi
    show Rch p ev below _ s₁ (mkF m 98 #[.val (.ref a1), .val (.int p2), .val (.int (3 : Int32)), .val (.int (own_c bs p2 0)), .val (.int lo), .val (.int hi), .unset, .unset] [])
    refine Rch.go (fun _ q => XS.iloadN X0.here hx rfl (hb hby d3_98) rfl  q) ?_
    show Rch p ev below _ s₁ (mkF m 99 #[.val (.ref a1), .val (.int p2), .val (.int (3 : Int32)), .val (.int (own_c bs p2 0)), .val (.int lo), .val (.int hi), .unset, .unset] [(.int (3 : Int32))])
    refine Rch.go (fun _ q => XS.iconst X0.here hx rfl (hb hby d3_99) q) ?_
    show Rch p ev below _ s₁ (mkF m 100 #[.val (.ref a1), .val (.int p2), .val (.int (3 : Int32)), .val (.int (own_c bs p2 0)), .val (.int lo), .val (.int hi), .unset, .unset] [(.int (1 : Int32)), (.int (3 : Int32))])
    refine Rch.go (fun _ q => XS.icmpNo X0.here hx rfl (hb hby d3_100) rfl (feq (by decide)).1 q) ?_
    show Rch p ev below _ s₁ (mkF m 103 #[.val (.ref a1), .val (.int p2), .val (.int (3 : Int32)), .val (.int (own_c bs p2 0)), .val (.int lo), .val (.int hi), .unset, .unset] [])
    refine Rch.go (fun _ q => XS.aloadN X0.here hx rfl (hb hby d3_103) rfl rfl q) ?_
    show Rch p ev below _ s₁ (mkF m 104 #[.val (.ref a1), .val (.int p2), .val (.int (3 : Int32)), .val (.int (own_c bs p2 0)), .val (.int lo), .val (.int hi), .unset, .unset] [(.ref a1)])
    refine Rch.go (fun _ q => XS.iloadN X0.here hx rfl (hb hby d3_104) rfl  q) ?_
    show Rch p ev below _ s₁ (mkF m 105 #[.val (.ref a1), .val (.int p2), .val (.int (3 : Int32)), .val (.int (own_c bs p2 0)), .val (.int lo), .val (.int hi), .unset, .unset] [(.int p2), (.ref a1)])
    refine Rch.go (fun _ q => XS.iconst X0.here hx rfl (hb hby d3_105) q) ?_
    show Rch p ev below _ s₁ (mkF m 106 #[.val (.ref a1), .val (.int p2), .val (.int (3 : Int32)), .val (.int (own_c bs p2 0)), .val (.int lo), .val (.int hi), .unset, .unset] [(.int (1 : Int32)), (.int p2), (.ref a1)])
    refine Rch.go (fun _ q => XS.iadd X0.here hx rfl (hb hby d3_106) rfl q) ?_
    show Rch p ev below _ s₁ (mkF m 107 #[.val (.ref a1), .val (.int p2), .val (.int (3 : Int32)), .val (.int (own_c bs p2 0)), .val (.int lo), .val (.int hi), .unset, .unset] [(.int (p2 + (1 : Int32))), (.ref a1)])
    refine Rch.go (fun _ q => ldB X0 hx hZ e0 V1 (j := (p2 + (1 : Int32))) (v := (.int (bs.getD (p2.toNatClampNeg + 1) 0))) (own_jk p2 (1 : Int32) 1 rfl hi0 (by omega)).1 (by rw [(own_jk p2 (1 : Int32) 1 rfl hi0 (by omega)).2]; exact own_rd bs _) (g := (mkF m 107 #[.val (.ref a1), .val (.int p2), .val (.int (3 : Int32)), .val (.int (own_c bs p2 0)), .val (.int lo), .val (.int hi), .unset, .unset] [(.int (p2 + (1 : Int32))), (.ref a1)])) rfl rfl (hb hby d3_107) _ q) ?_
    show Rch p ev below _ s₁ (mkF m 108 #[.val (.ref a1), .val (.int p2), .val (.int (3 : Int32)), .val (.int (own_c bs p2 0)), .val (.int lo), .val (.int hi), .unset, .unset] [(.int (bs.getD (p2.toNatClampNeg + 1) 0))])
    refine Rch.go (fun _ q => XS.iload X0.here hx rfl (hb hby d3_108) rfl  q) ?_
    show Rch p ev below _ s₁ (mkF m 110 #[.val (.ref a1), .val (.int p2), .val (.int (3 : Int32)), .val (.int (own_c bs p2 0)), .val (.int lo), .val (.int hi), .unset, .unset] [(.int lo), (.int (bs.getD (p2.toNatClampNeg + 1) 0))])
    refine Rch.go (fun _ q => XS.iload X0.here hx rfl (hb hby d3_110) rfl  q) ?_
    show Rch p ev below _ s₁ (mkF m 112 #[.val (.ref a1), .val (.int p2), .val (.int (3 : Int32)), .val (.int (own_c bs p2 0)), .val (.int lo), .val (.int hi), .unset, .unset] [(.int hi), (.int lo), (.int (bs.getD (p2.toNatClampNeg + 1) 0))])
    obtain ⟨_, _, ⟨T101, L101, k101, n101⟩, -, X101, ⟨Lc101, hQ101, l101, y101, z101⟩, st101⟩ := Jvm.LawKit.callS X0 hx (y := (⟨"com/example/slicewright/slicewright/runtime/Utf8", "inRange", "(BII)Z"⟩ : MethodName)) hown (mvT hZ (hw _ (List.mem_of_getElem? (i := 19) rfl))) (mvT hZ (hw _ (List.mem_of_getElem? (i := 20) rfl))) (mvT hZ (hw _ (List.mem_of_getElem? (i := 4) rfl))) (mvT hZ (hw _ (List.mem_of_getElem? (i := 21) rfl))) (by decide) (backOf (W := 0) (rm2 l Z a0 hw [] (bs.getD (p2.toNatClampNeg + 1) 0) lo hi h0 n0 Z0) hZ (hw _ (List.mem_of_getElem? (i := 21) rfl)) (hw _ (List.mem_of_getElem? (i := 4) rfl)) (by decide) (by decide)) (g := (mkF m 112 #[.val (.ref a1), .val (.int p2), .val (.int (3 : Int32)), .val (.int (own_c bs p2 0)), .val (.int lo), .val (.int hi), .unset, .unset] [(.int hi), (.int lo), (.int (bs.getD (p2.toNatClampNeg + 1) 0))])) rfl (by rw [hml]; rfl) (argsL := [(.int (bs.getD (p2.toNatClampNeg + 1) 0)), (.int lo), (.int hi)]) (rest := []) (lenOf own_pd1 rfl) rfl (by show 2 * 0 + _ ≤ _; exact Nat.le_of_eq rfl) (hb hby d3_112) (fun _ _ => ⟨rfl, e0, (by decide : 0 + 0 ≤ _), (by decide : 0 + 0 ≤ _)⟩)
    dsimp only [Pt.U, Pt.locs, Pt.cells, Pt.slots] at X101 l101 y101 z101 st101 hQ101
    subst l101 y101 z101
    obtain ⟨rfl, Nc, ec⟩ := hQ101
    refine Rch.go st101 ?_
    show Rch p ev below _ T101 (mkF m 115 #[.val (.ref a1), .val (.int p2), .val (.int (3 : Int32)), .val (.int (own_c bs p2 0)), .val (.int lo), .val (.int hi), .unset, .unset] [(.int (own_ir (own_c bs p2 1) lo hi))])
    have N101 := Fr.app N0 Nc
    have e101 := ec
    by_cases hc115 : (own_ir (own_c bs p2 1) lo hi) = (0 : Int32)
    · skip
      refine Rch.go (fun _ q => XS.ifYes X101.here hx rfl (pc0 := 115) (pc' := 122) rfl (hb hby d3_115) rfl ((if0 _ _).trans (teq hc115).1) (by decide) (by decide) q) ?_
      show Rch p ev below _ T101 (mkF m 122 #[.val (.ref a1), .val (.int p2), .val (.int (3 : Int32)), .val (.int (own_c bs p2 0)), .val (.int lo), .val (.int hi), .unset, .unset] [])
      refine Rch.go (fun _ q => XS.iconst X101.here hx rfl (hb hby d3_122) q) ?_
      show Rch p ev below _ T101 (mkF m 123 #[.val (.ref a1), .val (.int p2), .val (.int (3 : Int32)), .val (.int (own_c bs p2 0)), .val (.int lo), .val (.int hi), .unset, .unset] [(.int (0 : Int32))])
      refine Rch.go (fun _ q => XS.istore X101.here hx rfl (hb hby d3_123) rfl (l' := #[.val (.ref a1), .val (.int p2), .val (.int (3 : Int32)), .val (.int (own_c bs p2 0)), .val (.int lo), .val (.int hi), .val (.int (0 : Int32)), .unset]) rfl q) ?_
      show Rch p ev below _ T101 (mkF m 125 #[.val (.ref a1), .val (.int p2), .val (.int (3 : Int32)), .val (.int (own_c bs p2 0)), .val (.int lo), .val (.int hi), .val (.int (0 : Int32)), .unset] [])
      refine Rch.go (fun _ q => XS.iconst X101.here hx rfl (hb hby d3_125) q) ?_
      show Rch p ev below _ T101 (mkF m 126 #[.val (.ref a1), .val (.int p2), .val (.int (3 : Int32)), .val (.int (own_c bs p2 0)), .val (.int lo), .val (.int hi), .val (.int (0 : Int32)), .unset] [(.int (2 : Int32))])
      refine Rch.go (fun _ q => XS.istore X101.here hx rfl (hb hby d3_126) rfl (l' := #[.val (.ref a1), .val (.int p2), .val (.int (3 : Int32)), .val (.int (own_c bs p2 0)), .val (.int lo), .val (.int hi), .val (.int (0 : Int32)), .val (.int (2 : Int32))]) rfl q) ?_
      show Rch p ev below _ T101 (mkF m 128 #[.val (.ref a1), .val (.int p2), .val (.int (3 : Int32)), .val (.int (own_c bs p2 0)), .val (.int lo), .val (.int hi), .val (.int (0 : Int32)), .val (.int (2 : Int32))] [])
      refine Rch.go (fun _ q => XS.iload X101.here hx rfl (hb hby d3_128) rfl  q) ?_
      show Rch p ev below _ T101 (mkF m 130 #[.val (.ref a1), .val (.int p2), .val (.int (3 : Int32)), .val (.int (own_c bs p2 0)), .val (.int lo), .val (.int hi), .val (.int (0 : Int32)), .val (.int (2 : Int32))] [(.int (2 : Int32))])
      refine Rch.go (fun _ q => XS.iloadN X101.here hx rfl (hb hby d3_130) rfl  q) ?_
      show Rch p ev below _ T101 (mkF m 131 #[.val (.ref a1), .val (.int p2), .val (.int (3 : Int32)), .val (.int (own_c bs p2 0)), .val (.int lo), .val (.int hi), .val (.int (0 : Int32)), .val (.int (2 : Int32))] [(.int (3 : Int32)), (.int (2 : Int32))])
      refine Rch.go (fun _ q => XS.icmpNo X101.here hx rfl (hb hby d3_131) rfl (tlt (by decide)).2.1 q) ?_
      show Rch p ev below _ T101 (mkF m 134 #[.val (.ref a1), .val (.int p2), .val (.int (3 : Int32)), .val (.int (own_c bs p2 0)), .val (.int lo), .val (.int hi), .val (.int (0 : Int32)), .val (.int (2 : Int32))] [])
      refine Rch.go (fun _ q => XS.iload X101.here hx rfl (hb hby d3_134) rfl  q) ?_
      show Rch p ev below _ T101 (mkF m 136 #[.val (.ref a1), .val (.int p2), .val (.int (3 : Int32)), .val (.int (own_c bs p2 0)), .val (.int lo), .val (.int hi), .val (.int (0 : Int32)), .val (.int (2 : Int32))] [(.int (0 : Int32))])
      refine Rch.go (fun _ q => XS.ifYes X101.here hx rfl (pc0 := 136) (pc' := 162) rfl (hb hby d3_136) rfl ((if0 _ _).trans (teq (by decide)).1) (by decide) (by decide) q) ?_
      show Rch p ev below _ T101 (mkF m 162 #[.val (.ref a1), .val (.int p2), .val (.int (3 : Int32)), .val (.int (own_c bs p2 0)), .val (.int lo), .val (.int hi), .val (.int (0 : Int32)), .val (.int (2 : Int32))] [])
      refine Rch.go (fun _ q => XS.iload X101.here hx rfl (hb hby d3_162) rfl  q) ?_
      show Rch p ev below _ T101 (mkF m 164 #[.val (.ref a1), .val (.int p2), .val (.int (3 : Int32)), .val (.int (own_c bs p2 0)), .val (.int lo), .val (.int hi), .val (.int (0 : Int32)), .val (.int (2 : Int32))] [(.int (0 : Int32))])
      refine Rch.retZ X101 hx hlk Bd.returns (hb hby d3_164) (by decide) (by decide) ?_
      unfold Qrm3_3
      exact ⟨by simp only [own_cn1, own_cn2, own_cn3, own_cn4, hlo, hhi, own_ir_n, hc115,  if_true, if_false]; first | done | rfl, N101, e101⟩
    · skip
      refine Rch.go (fun _ q => XS.ifNo X101.here hx rfl (hb hby d3_115) rfl ((if0 _ _).trans (feq hc115).1) q) ?_
      show Rch p ev below _ T101 (mkF m 118 #[.val (.ref a1), .val (.int p2), .val (.int (3 : Int32)), .val (.int (own_c bs p2 0)), .val (.int lo), .val (.int hi), .unset, .unset] [])
      refine Rch.go (fun _ q => XS.iconst X101.here hx rfl (hb hby d3_118) q) ?_
      show Rch p ev below _ T101 (mkF m 119 #[.val (.ref a1), .val (.int p2), .val (.int (3 : Int32)), .val (.int (own_c bs p2 0)), .val (.int lo), .val (.int hi), .unset, .unset] [(.int (1 : Int32))])
      refine Rch.go (fun _ q => XS.goto X101.here hx rfl (pc0 := 119) (pc' := 123) rfl (hb hby d3_119) (by decide) (by decide) q) ?_
      show Rch p ev below _ T101 (mkF m 123 #[.val (.ref a1), .val (.int p2), .val (.int (3 : Int32)), .val (.int (own_c bs p2 0)), .val (.int lo), .val (.int hi), .unset, .unset] [(.int (1 : Int32))])
      refine Rch.go (fun _ q => XS.istore X101.here hx rfl (hb hby d3_123) rfl (l' := #[.val (.ref a1), .val (.int p2), .val (.int (3 : Int32)), .val (.int (own_c bs p2 0)), .val (.int lo), .val (.int hi), .val (.int (1 : Int32)), .unset]) rfl q) ?_
      show Rch p ev below _ T101 (mkF m 125 #[.val (.ref a1), .val (.int p2), .val (.int (3 : Int32)), .val (.int (own_c bs p2 0)), .val (.int lo), .val (.int hi), .val (.int (1 : Int32)), .unset] [])
      refine Rch.go (fun _ q => XS.iconst X101.here hx rfl (hb hby d3_125) q) ?_
      show Rch p ev below _ T101 (mkF m 126 #[.val (.ref a1), .val (.int p2), .val (.int (3 : Int32)), .val (.int (own_c bs p2 0)), .val (.int lo), .val (.int hi), .val (.int (1 : Int32)), .unset] [(.int (2 : Int32))])
      refine Rch.go (fun _ q => XS.istore X101.here hx rfl (hb hby d3_126) rfl (l' := #[.val (.ref a1), .val (.int p2), .val (.int (3 : Int32)), .val (.int (own_c bs p2 0)), .val (.int lo), .val (.int hi), .val (.int (1 : Int32)), .val (.int (2 : Int32))]) rfl q) ?_
      show Rch p ev below _ T101 (mkF m 128 #[.val (.ref a1), .val (.int p2), .val (.int (3 : Int32)), .val (.int (own_c bs p2 0)), .val (.int lo), .val (.int hi), .val (.int (1 : Int32)), .val (.int (2 : Int32))] [])
      refine Rch.go (fun _ q => XS.iload X101.here hx rfl (hb hby d3_128) rfl  q) ?_
      show Rch p ev below _ T101 (mkF m 130 #[.val (.ref a1), .val (.int p2), .val (.int (3 : Int32)), .val (.int (own_c bs p2 0)), .val (.int lo), .val (.int hi), .val (.int (1 : Int32)), .val (.int (2 : Int32))] [(.int (2 : Int32))])
      refine Rch.go (fun _ q => XS.iloadN X101.here hx rfl (hb hby d3_130) rfl  q) ?_
      show Rch p ev below _ T101 (mkF m 131 #[.val (.ref a1), .val (.int p2), .val (.int (3 : Int32)), .val (.int (own_c bs p2 0)), .val (.int lo), .val (.int hi), .val (.int (1 : Int32)), .val (.int (2 : Int32))] [(.int (3 : Int32)), (.int (2 : Int32))])
      refine Rch.go (fun _ q => XS.icmpNo X101.here hx rfl (hb hby d3_131) rfl (tlt (by decide)).2.1 q) ?_
      show Rch p ev below _ T101 (mkF m 134 #[.val (.ref a1), .val (.int p2), .val (.int (3 : Int32)), .val (.int (own_c bs p2 0)), .val (.int lo), .val (.int hi), .val (.int (1 : Int32)), .val (.int (2 : Int32))] [])
      refine Rch.go (fun _ q => XS.iload X101.here hx rfl (hb hby d3_134) rfl  q) ?_
      show Rch p ev below _ T101 (mkF m 136 #[.val (.ref a1), .val (.int p2), .val (.int (3 : Int32)), .val (.int (own_c bs p2 0)), .val (.int lo), .val (.int hi), .val (.int (1 : Int32)), .val (.int (2 : Int32))] [(.int (1 : Int32))])
      refine Rch.go (fun _ q => XS.ifNo X101.here hx rfl (hb hby d3_136) rfl ((if0 _ _).trans (feq (by decide)).1) q) ?_
      show Rch p ev below _ T101 (mkF m 139 #[.val (.ref a1), .val (.int p2), .val (.int (3 : Int32)), .val (.int (own_c bs p2 0)), .val (.int lo), .val (.int hi), .val (.int (1 : Int32)), .val (.int (2 : Int32))] [])
      refine Rch.go (fun _ q => XS.aloadN X101.here hx rfl (hb hby d3_139) rfl rfl q) ?_
      show Rch p ev below _ T101 (mkF m 140 #[.val (.ref a1), .val (.int p2), .val (.int (3 : Int32)), .val (.int (own_c bs p2 0)), .val (.int lo), .val (.int hi), .val (.int (1 : Int32)), .val (.int (2 : Int32))] [(.ref a1)])
      refine Rch.go (fun _ q => XS.iloadN X101.here hx rfl (hb hby d3_140) rfl  q) ?_
      show Rch p ev below _ T101 (mkF m 141 #[.val (.ref a1), .val (.int p2), .val (.int (3 : Int32)), .val (.int (own_c bs p2 0)), .val (.int lo), .val (.int hi), .val (.int (1 : Int32)), .val (.int (2 : Int32))] [(.int p2), (.ref a1)])
      refine Rch.go (fun _ q => XS.iload X101.here hx rfl (hb hby d3_141) rfl  q) ?_
      show Rch p ev below _ T101 (mkF m 143 #[.val (.ref a1), .val (.int p2), .val (.int (3 : Int32)), .val (.int (own_c bs p2 0)), .val (.int lo), .val (.int hi), .val (.int (1 : Int32)), .val (.int (2 : Int32))] [(.int (2 : Int32)), (.int p2), (.ref a1)])
      refine Rch.go (fun _ q => XS.iadd X101.here hx rfl (hb hby d3_143) rfl q) ?_
      show Rch p ev below _ T101 (mkF m 144 #[.val (.ref a1), .val (.int p2), .val (.int (3 : Int32)), .val (.int (own_c bs p2 0)), .val (.int lo), .val (.int hi), .val (.int (1 : Int32)), .val (.int (2 : Int32))] [(.int (p2 + (2 : Int32))), (.ref a1)])
      refine Rch.go (fun _ q => ldB X101 hx hZ e101 V1 (j := (p2 + (2 : Int32))) (v := (.int (bs.getD (p2.toNatClampNeg + 2) 0))) (own_jk p2 (2 : Int32) 2 rfl hi0 (by omega)).1 (by rw [(own_jk p2 (2 : Int32) 2 rfl hi0 (by omega)).2]; exact own_rd bs _) (g := (mkF m 144 #[.val (.ref a1), .val (.int p2), .val (.int (3 : Int32)), .val (.int (own_c bs p2 0)), .val (.int lo), .val (.int hi), .val (.int (1 : Int32)), .val (.int (2 : Int32))] [(.int (p2 + (2 : Int32))), (.ref a1)])) rfl rfl (hb hby d3_144) _ q) ?_
      show Rch p ev below _ T101 (mkF m 145 #[.val (.ref a1), .val (.int p2), .val (.int (3 : Int32)), .val (.int (own_c bs p2 0)), .val (.int lo), .val (.int hi), .val (.int (1 : Int32)), .val (.int (2 : Int32))] [(.int (bs.getD (p2.toNatClampNeg + 2) 0))])
      refine Rch.go (fun _ q => XS.sipush X101.here hx rfl (hb hby d3_145) q) ?_
      show Rch p ev below _ T101 (mkF m 148 #[.val (.ref a1), .val (.int p2), .val (.int (3 : Int32)), .val (.int (own_c bs p2 0)), .val (.int lo), .val (.int hi), .val (.int (1 : Int32)), .val (.int (2 : Int32))] [(.int (128 : Int32)), (.int (bs.getD (p2.toNatClampNeg + 2) 0))])
      refine Rch.go (fun _ q => XS.sipush X101.here hx rfl (hb hby d3_148) q) ?_
      show Rch p ev below _ T101 (mkF m 151 #[.val (.ref a1), .val (.int p2), .val (.int (3 : Int32)), .val (.int (own_c bs p2 0)), .val (.int lo), .val (.int hi), .val (.int (1 : Int32)), .val (.int (2 : Int32))] [(.int (191 : Int32)), (.int (128 : Int32)), (.int (bs.getD (p2.toNatClampNeg + 2) 0))])
      obtain ⟨_, _, ⟨T102, L102, k102, n102⟩, -, X102, ⟨Lc102, hQ102, l102, y102, z102⟩, st102⟩ := Jvm.LawKit.callS X101 hx (y := (⟨"com/example/slicewright/slicewright/runtime/Utf8", "inRange", "(BII)Z"⟩ : MethodName)) hown (mvT hZ (hw _ (List.mem_of_getElem? (i := 19) rfl))) (mvT hZ (hw _ (List.mem_of_getElem? (i := 20) rfl))) (mvT hZ (hw _ (List.mem_of_getElem? (i := 4) rfl))) (mvT hZ (hw _ (List.mem_of_getElem? (i := 21) rfl))) (by decide) (backOf (W := 0) (rm2 l Z a0 hw [] (bs.getD (p2.toNatClampNeg + 2) 0) 128 191 h0 n0 Z0) hZ (hw _ (List.mem_of_getElem? (i := 21) rfl)) (hw _ (List.mem_of_getElem? (i := 4) rfl)) (by decide) (by decide)) (g := (mkF m 151 #[.val (.ref a1), .val (.int p2), .val (.int (3 : Int32)), .val (.int (own_c bs p2 0)), .val (.int lo), .val (.int hi), .val (.int (1 : Int32)), .val (.int (2 : Int32))] [(.int (191 : Int32)), (.int (128 : Int32)), (.int (bs.getD (p2.toNatClampNeg + 2) 0))])) rfl (by rw [hml]; rfl) (argsL := [(.int (bs.getD (p2.toNatClampNeg + 2) 0)), (.int (128 : Int32)), (.int (191 : Int32))]) (rest := []) (lenOf own_pd1 rfl) rfl (by show 2 * 0 + _ ≤ _; exact Nat.le_of_eq rfl) (hb hby d3_151) (fun _ _ => ⟨rfl, e101, (by decide : 0 + 0 ≤ _), (by decide : 0 + 0 ≤ _)⟩)
      dsimp only [Pt.U, Pt.locs, Pt.cells, Pt.slots] at X102 l102 y102 z102 st102 hQ102
      subst l102 y102 z102
      obtain ⟨rfl, Nc, ec⟩ := hQ102
      refine Rch.go st102 ?_
      show Rch p ev below _ T102 (mkF m 154 #[.val (.ref a1), .val (.int p2), .val (.int (3 : Int32)), .val (.int (own_c bs p2 0)), .val (.int lo), .val (.int hi), .val (.int (1 : Int32)), .val (.int (2 : Int32))] [(.int (own_ir (own_c bs p2 2) 128 191))])
      have N102 := Fr.app N101 Nc
      have e102 := ec
      refine Rch.go (fun _ q => XS.istore X102.here hx rfl (hb hby d3_154) rfl (l' := #[.val (.ref a1), .val (.int p2), .val (.int (3 : Int32)), .val (.int (own_c bs p2 0)), .val (.int lo), .val (.int hi), .val (.int (own_ir (own_c bs p2 2) 128 191)), .val (.int (2 : Int32))]) rfl q) ?_
      show Rch p ev below _ T102 (mkF m 156 #[.val (.ref a1), .val (.int p2), .val (.int (3 : Int32)), .val (.int (own_c bs p2 0)), .val (.int lo), .val (.int hi), .val (.int (own_ir (own_c bs p2 2) 128 191)), .val (.int (2 : Int32))] [])
      refine Rch.go (fun _ q => XS.iinc X102.here hx rfl (hb hby d3_156) rfl (l' := #[.val (.ref a1), .val (.int p2), .val (.int (3 : Int32)), .val (.int (own_c bs p2 0)), .val (.int lo), .val (.int hi), .val (.int (own_ir (own_c bs p2 2) 128 191)), .val (.int (3 : Int32))]) rfl q) ?_
      show Rch p ev below _ T102 (mkF m 159 #[.val (.ref a1), .val (.int p2), .val (.int (3 : Int32)), .val (.int (own_c bs p2 0)), .val (.int lo), .val (.int hi), .val (.int (own_ir (own_c bs p2 2) 128 191)), .val (.int (3 : Int32))] [])
      refine Rch.go (fun _ q => XS.goto X102.here hx rfl (pc0 := 159) (pc' := 128) rfl (hb hby d3_159) (by decide) (by decide) q) ?_
      show Rch p ev below _ T102 (mkF m 128 #[.val (.ref a1), .val (.int p2), .val (.int (3 : Int32)), .val (.int (own_c bs p2 0)), .val (.int lo), .val (.int hi), .val (.int (own_ir (own_c bs p2 2) 128 191)), .val (.int (3 : Int32))] [])
      refine Rch.go (fun _ q => XS.iload X102.here hx rfl (hb hby d3_128) rfl  q) ?_
      show Rch p ev below _ T102 (mkF m 130 #[.val (.ref a1), .val (.int p2), .val (.int (3 : Int32)), .val (.int (own_c bs p2 0)), .val (.int lo), .val (.int hi), .val (.int (own_ir (own_c bs p2 2) 128 191)), .val (.int (3 : Int32))] [(.int (3 : Int32))])
      refine Rch.go (fun _ q => XS.iloadN X102.here hx rfl (hb hby d3_130) rfl  q) ?_
      show Rch p ev below _ T102 (mkF m 131 #[.val (.ref a1), .val (.int p2), .val (.int (3 : Int32)), .val (.int (own_c bs p2 0)), .val (.int lo), .val (.int hi), .val (.int (own_ir (own_c bs p2 2) 128 191)), .val (.int (3 : Int32))] [(.int (3 : Int32)), (.int (3 : Int32))])
      refine Rch.go (fun _ q => XS.icmpYes X102.here hx rfl (pc0 := 131) (pc' := 162) rfl (hb hby d3_131) rfl (flt (by decide)).2.1 (by decide) (by decide) q) ?_
      show Rch p ev below _ T102 (mkF m 162 #[.val (.ref a1), .val (.int p2), .val (.int (3 : Int32)), .val (.int (own_c bs p2 0)), .val (.int lo), .val (.int hi), .val (.int (own_ir (own_c bs p2 2) 128 191)), .val (.int (3 : Int32))] [])
      refine Rch.go (fun _ q => XS.iload X102.here hx rfl (hb hby d3_162) rfl  q) ?_
      show Rch p ev below _ T102 (mkF m 164 #[.val (.ref a1), .val (.int p2), .val (.int (3 : Int32)), .val (.int (own_c bs p2 0)), .val (.int lo), .val (.int hi), .val (.int (own_ir (own_c bs p2 2) 128 191)), .val (.int (3 : Int32))] [(.int (own_ir (own_c bs p2 2) 128 191))])
      refine Rch.retZ X102 hx hlk Bd.returns (hb hby d3_164) (by decide) (by decide) ?_
      unfold Qrm3_3
      exact ⟨by simp only [own_cn1, own_cn2, own_cn3, own_cn4, hlo, hhi, own_ir_n, hc115,  if_true, if_false]; first | done | rfl, N102, e102⟩
  refine Rch.go (fun _ q => XS.aloadN X0.here hx rfl (hb hby d3_0) rfl rfl q) ?_
  show Rch p ev below _ s₁ (mkF m 1 #[.val (.ref a1), .val (.int p2), .val (.int (3 : Int32)), .unset, .unset, .unset, .unset, .unset] [(.ref a1)])
  refine Rch.go (fun _ q => XS.iloadN X0.here hx rfl (hb hby d3_1) rfl  q) ?_
  show Rch p ev below _ s₁ (mkF m 2 #[.val (.ref a1), .val (.int p2), .val (.int (3 : Int32)), .unset, .unset, .unset, .unset, .unset] [(.int p2), (.ref a1)])
  refine Rch.go (fun _ q => ldB X0 hx hZ e0 V1 (j := p2) (v := (.int (bs.getD (p2.toNatClampNeg + 0) 0))) (own_j0 p2 hi0 (by omega)) (own_rd bs _) (g := (mkF m 2 #[.val (.ref a1), .val (.int p2), .val (.int (3 : Int32)), .unset, .unset, .unset, .unset, .unset] [(.int p2), (.ref a1)])) rfl rfl (hb hby d3_2) _ q) ?_
  show Rch p ev below _ s₁ (mkF m 3 #[.val (.ref a1), .val (.int p2), .val (.int (3 : Int32)), .unset, .unset, .unset, .unset, .unset] [(.int (bs.getD (p2.toNatClampNeg + 0) 0))])
  refine Rch.go (fun _ q => XS.sipush X0.here hx rfl (hb hby d3_3) q) ?_
  show Rch p ev below _ s₁ (mkF m 6 #[.val (.ref a1), .val (.int p2), .val (.int (3 : Int32)), .unset, .unset, .unset, .unset, .unset] [(.int (255 : Int32)), (.int (bs.getD (p2.toNatClampNeg + 0) 0))])
  refine Rch.go (fun _ q => XS.iand X0.here hx rfl (hb hby d3_6) rfl q) ?_
  show Rch p ev below _ s₁ (mkF m 7 #[.val (.ref a1), .val (.int p2), .val (.int (3 : Int32)), .unset, .unset, .unset, .unset, .unset] [(.int ((bs.getD (p2.toNatClampNeg + 0) 0) &&& (255 : Int32)))])
  refine Rch.go (fun _ q => XS.istoreN X0.here hx rfl (hb hby d3_7) rfl (l' := #[.val (.ref a1), .val (.int p2), .val (.int (3 : Int32)), .val (.int ((bs.getD (p2.toNatClampNeg + 0) 0) &&& (255 : Int32))), .unset, .unset, .unset, .unset]) rfl q) ?_
  show Rch p ev below _ s₁ (mkF m 8 #[.val (.ref a1), .val (.int p2), .val (.int (3 : Int32)), .val (.int ((bs.getD (p2.toNatClampNeg + 0) 0) &&& (255 : Int32))), .unset, .unset, .unset, .unset] [])
  show Rch p ev below _ s₁ (mkF m 8 #[.val (.ref a1), .val (.int p2), .val (.int (3 : Int32)), .val (.int (own_c bs p2 0)), .unset, .unset, .unset, .unset] [])
  refine Rch.go (fun _ q => XS.iloadN X0.here hx rfl (hb hby d3_8) rfl  q) ?_
  show Rch p ev below _ s₁ (mkF m 9 #[.val (.ref a1), .val (.int p2), .val (.int (3 : Int32)), .val (.int (own_c bs p2 0)), .unset, .unset, .unset, .unset] [(.int (own_c bs p2 0))])
  refine Rch.go (fun _ q => XS.sipush X0.here hx rfl (hb hby d3_9) q) ?_
  show Rch p ev below _ s₁ (mkF m 12 #[.val (.ref a1), .val (.int p2), .val (.int (3 : Int32)), .val (.int (own_c bs p2 0)), .unset, .unset, .unset, .unset] [(.int (224 : Int32)), (.int (own_c bs p2 0))])
  by_cases hc12 : (own_c bs p2 0) = (224 : Int32)
  · skip
    refine Rch.go (fun _ q => XS.icmpNo X0.here hx rfl (hb hby d3_12) rfl (teq hc12).2 q) ?_
    show Rch p ev below _ s₁ (mkF m 15 #[.val (.ref a1), .val (.int p2), .val (.int (3 : Int32)), .val (.int (own_c bs p2 0)), .unset, .unset, .unset, .unset] [])
    refine Rch.go (fun _ q => XS.sipush X0.here hx rfl (hb hby d3_15) q) ?_
    show Rch p ev below _ s₁ (mkF m 18 #[.val (.ref a1), .val (.int p2), .val (.int (3 : Int32)), .val (.int (own_c bs p2 0)), .unset, .unset, .unset, .unset] [(.int (160 : Int32))])
    refine Rch.go (fun _ q => XS.istore X0.here hx rfl (hb hby d3_18) rfl (l' := #[.val (.ref a1), .val (.int p2), .val (.int (3 : Int32)), .val (.int (own_c bs p2 0)), .val (.int (160 : Int32)), .unset, .unset, .unset]) rfl q) ?_
    show Rch p ev below _ s₁ (mkF m 20 #[.val (.ref a1), .val (.int p2), .val (.int (3 : Int32)), .val (.int (own_c bs p2 0)), .val (.int (160 : Int32)), .unset, .unset, .unset] [])
    refine Rch.go (fun _ q => XS.sipush X0.here hx rfl (hb hby d3_20) q) ?_
    show Rch p ev below _ s₁ (mkF m 23 #[.val (.ref a1), .val (.int p2), .val (.int (3 : Int32)), .val (.int (own_c bs p2 0)), .val (.int (160 : Int32)), .unset, .unset, .unset] [(.int (191 : Int32))])
    refine Rch.go (fun _ q => XS.istore X0.here hx rfl (hb hby d3_23) rfl (l' := #[.val (.ref a1), .val (.int p2), .val (.int (3 : Int32)), .val (.int (own_c bs p2 0)), .val (.int (160 : Int32)), .val (.int (191 : Int32)), .unset, .unset]) rfl q) ?_
    show Rch p ev below _ s₁ (mkF m 25 #[.val (.ref a1), .val (.int p2), .val (.int (3 : Int32)), .val (.int (own_c bs p2 0)), .val (.int (160 : Int32)), .val (.int (191 : Int32)), .unset, .unset] [])
    refine Rch.go (fun _ q => XS.goto X0.here hx rfl (pc0 := 25) (pc' := 98) rfl (hb hby d3_25) (by decide) (by decide) q) ?_
    show Rch p ev below _ s₁ (mkF m 98 #[.val (.ref a1), .val (.int p2), .val (.int (3 : Int32)), .val (.int (own_c bs p2 0)), .val (.int (160 : Int32)), .val (.int (191 : Int32)), .unset, .unset] [])
    exact tail _ _ (by simp only [own_lo, hc12, if_true, if_false]; first | done | rfl | decide) (by simp only [own_hi, hc12, if_true, if_false]; first | done | rfl | decide)
  · skip
    refine Rch.go (fun _ q => XS.icmpYes X0.here hx rfl (pc0 := 12) (pc' := 28) rfl (hb hby d3_12) rfl (feq hc12).2 (by decide) (by decide) q) ?_
    show Rch p ev below _ s₁ (mkF m 28 #[.val (.ref a1), .val (.int p2), .val (.int (3 : Int32)), .val (.int (own_c bs p2 0)), .unset, .unset, .unset, .unset] [])
    refine Rch.go (fun _ q => XS.iloadN X0.here hx rfl (hb hby d3_28) rfl  q) ?_
    show Rch p ev below _ s₁ (mkF m 29 #[.val (.ref a1), .val (.int p2), .val (.int (3 : Int32)), .val (.int (own_c bs p2 0)), .unset, .unset, .unset, .unset] [(.int (own_c bs p2 0))])
    refine Rch.go (fun _ q => XS.sipush X0.here hx rfl (hb hby d3_29) q) ?_
    show Rch p ev below _ s₁ (mkF m 32 #[.val (.ref a1), .val (.int p2), .val (.int (3 : Int32)), .val (.int (own_c bs p2 0)), .unset, .unset, .unset, .unset] [(.int (237 : Int32)), (.int (own_c bs p2 0))])
    by_cases hc32 : (own_c bs p2 0) = (237 : Int32)
    · skip
      refine Rch.go (fun _ q => XS.icmpNo X0.here hx rfl (hb hby d3_32) rfl (teq hc32).2 q) ?_
      show Rch p ev below _ s₁ (mkF m 35 #[.val (.ref a1), .val (.int p2), .val (.int (3 : Int32)), .val (.int (own_c bs p2 0)), .unset, .unset, .unset, .unset] [])
      refine Rch.go (fun _ q => XS.sipush X0.here hx rfl (hb hby d3_35) q) ?_
      show Rch p ev below _ s₁ (mkF m 38 #[.val (.ref a1), .val (.int p2), .val (.int (3 : Int32)), .val (.int (own_c bs p2 0)), .unset, .unset, .unset, .unset] [(.int (128 : Int32))])
      refine Rch.go (fun _ q => XS.istore X0.here hx rfl (hb hby d3_38) rfl (l' := #[.val (.ref a1), .val (.int p2), .val (.int (3 : Int32)), .val (.int (own_c bs p2 0)), .val (.int (128 : Int32)), .unset, .unset, .unset]) rfl q) ?_
      show Rch p ev below _ s₁ (mkF m 40 #[.val (.ref a1), .val (.int p2), .val (.int (3 : Int32)), .val (.int (own_c bs p2 0)), .val (.int (128 : Int32)), .unset, .unset, .unset] [])
      refine Rch.go (fun _ q => XS.sipush X0.here hx rfl (hb hby d3_40) q) ?_
      show Rch p ev below _ s₁ (mkF m 43 #[.val (.ref a1), .val (.int p2), .val (.int (3 : Int32)), .val (.int (own_c bs p2 0)), .val (.int (128 : Int32)), .unset, .unset, .unset] [(.int (159 : Int32))])
      refine Rch.go (fun _ q => XS.istore X0.here hx rfl (hb hby d3_43) rfl (l' := #[.val (.ref a1), .val (.int p2), .val (.int (3 : Int32)), .val (.int (own_c bs p2 0)), .val (.int (128 : Int32)), .val (.int (159 : Int32)), .unset, .unset]) rfl q) ?_
      show Rch p ev below _ s₁ (mkF m 45 #[.val (.ref a1), .val (.int p2), .val (.int (3 : Int32)), .val (.int (own_c bs p2 0)), .val (.int (128 : Int32)), .val (.int (159 : Int32)), .unset, .unset] [])
      refine Rch.go (fun _ q => XS.goto X0.here hx rfl (pc0 := 45) (pc' := 98) rfl (hb hby d3_45) (by decide) (by decide) q) ?_
      show Rch p ev below _ s₁ (mkF m 98 #[.val (.ref a1), .val (.int p2), .val (.int (3 : Int32)), .val (.int (own_c bs p2 0)), .val (.int (128 : Int32)), .val (.int (159 : Int32)), .unset, .unset] [])
      exact tail _ _ (by simp only [own_lo, hc12, hc32, if_true, if_false]; first | done | rfl | decide) (by simp only [own_hi, hc12, hc32, if_true, if_false]; first | done | rfl | decide)
    · skip
      refine Rch.go (fun _ q => XS.icmpYes X0.here hx rfl (pc0 := 32) (pc' := 48) rfl (hb hby d3_32) rfl (feq hc32).2 (by decide) (by decide) q) ?_
      show Rch p ev below _ s₁ (mkF m 48 #[.val (.ref a1), .val (.int p2), .val (.int (3 : Int32)), .val (.int (own_c bs p2 0)), .unset, .unset, .unset, .unset] [])
      refine Rch.go (fun _ q => XS.iloadN X0.here hx rfl (hb hby d3_48) rfl  q) ?_
      show Rch p ev below _ s₁ (mkF m 49 #[.val (.ref a1), .val (.int p2), .val (.int (3 : Int32)), .val (.int (own_c bs p2 0)), .unset, .unset, .unset, .unset] [(.int (own_c bs p2 0))])
      refine Rch.go (fun _ q => XS.sipush X0.here hx rfl (hb hby d3_49) q) ?_
      show Rch p ev below _ s₁ (mkF m 52 #[.val (.ref a1), .val (.int p2), .val (.int (3 : Int32)), .val (.int (own_c bs p2 0)), .unset, .unset, .unset, .unset] [(.int (240 : Int32)), (.int (own_c bs p2 0))])
      by_cases hc52 : (own_c bs p2 0) = (240 : Int32)
      · skip
        refine Rch.go (fun _ q => XS.icmpNo X0.here hx rfl (hb hby d3_52) rfl (teq hc52).2 q) ?_
        show Rch p ev below _ s₁ (mkF m 55 #[.val (.ref a1), .val (.int p2), .val (.int (3 : Int32)), .val (.int (own_c bs p2 0)), .unset, .unset, .unset, .unset] [])
        refine Rch.go (fun _ q => XS.sipush X0.here hx rfl (hb hby d3_55) q) ?_
        show Rch p ev below _ s₁ (mkF m 58 #[.val (.ref a1), .val (.int p2), .val (.int (3 : Int32)), .val (.int (own_c bs p2 0)), .unset, .unset, .unset, .unset] [(.int (144 : Int32))])
        refine Rch.go (fun _ q => XS.istore X0.here hx rfl (hb hby d3_58) rfl (l' := #[.val (.ref a1), .val (.int p2), .val (.int (3 : Int32)), .val (.int (own_c bs p2 0)), .val (.int (144 : Int32)), .unset, .unset, .unset]) rfl q) ?_
        show Rch p ev below _ s₁ (mkF m 60 #[.val (.ref a1), .val (.int p2), .val (.int (3 : Int32)), .val (.int (own_c bs p2 0)), .val (.int (144 : Int32)), .unset, .unset, .unset] [])
        refine Rch.go (fun _ q => XS.sipush X0.here hx rfl (hb hby d3_60) q) ?_
        show Rch p ev below _ s₁ (mkF m 63 #[.val (.ref a1), .val (.int p2), .val (.int (3 : Int32)), .val (.int (own_c bs p2 0)), .val (.int (144 : Int32)), .unset, .unset, .unset] [(.int (191 : Int32))])
        refine Rch.go (fun _ q => XS.istore X0.here hx rfl (hb hby d3_63) rfl (l' := #[.val (.ref a1), .val (.int p2), .val (.int (3 : Int32)), .val (.int (own_c bs p2 0)), .val (.int (144 : Int32)), .val (.int (191 : Int32)), .unset, .unset]) rfl q) ?_
        show Rch p ev below _ s₁ (mkF m 65 #[.val (.ref a1), .val (.int p2), .val (.int (3 : Int32)), .val (.int (own_c bs p2 0)), .val (.int (144 : Int32)), .val (.int (191 : Int32)), .unset, .unset] [])
        refine Rch.go (fun _ q => XS.goto X0.here hx rfl (pc0 := 65) (pc' := 98) rfl (hb hby d3_65) (by decide) (by decide) q) ?_
        show Rch p ev below _ s₁ (mkF m 98 #[.val (.ref a1), .val (.int p2), .val (.int (3 : Int32)), .val (.int (own_c bs p2 0)), .val (.int (144 : Int32)), .val (.int (191 : Int32)), .unset, .unset] [])
        exact tail _ _ (by simp only [own_lo, hc12, hc32, hc52, if_true, if_false]; first | done | rfl | decide) (by simp only [own_hi, hc12, hc32, hc52, if_true, if_false]; first | done | rfl | decide)
      · skip
        refine Rch.go (fun _ q => XS.icmpYes X0.here hx rfl (pc0 := 52) (pc' := 68) rfl (hb hby d3_52) rfl (feq hc52).2 (by decide) (by decide) q) ?_
        show Rch p ev below _ s₁ (mkF m 68 #[.val (.ref a1), .val (.int p2), .val (.int (3 : Int32)), .val (.int (own_c bs p2 0)), .unset, .unset, .unset, .unset] [])
        refine Rch.go (fun _ q => XS.iloadN X0.here hx rfl (hb hby d3_68) rfl  q) ?_
        show Rch p ev below _ s₁ (mkF m 69 #[.val (.ref a1), .val (.int p2), .val (.int (3 : Int32)), .val (.int (own_c bs p2 0)), .unset, .unset, .unset, .unset] [(.int (own_c bs p2 0))])
        refine Rch.go (fun _ q => XS.sipush X0.here hx rfl (hb hby d3_69) q) ?_
        show Rch p ev below _ s₁ (mkF m 72 #[.val (.ref a1), .val (.int p2), .val (.int (3 : Int32)), .val (.int (own_c bs p2 0)), .unset, .unset, .unset, .unset] [(.int (244 : Int32)), (.int (own_c bs p2 0))])
        by_cases hc72 : (own_c bs p2 0) = (244 : Int32)
        · skip
          refine Rch.go (fun _ q => XS.icmpNo X0.here hx rfl (hb hby d3_72) rfl (teq hc72).2 q) ?_
          show Rch p ev below _ s₁ (mkF m 75 #[.val (.ref a1), .val (.int p2), .val (.int (3 : Int32)), .val (.int (own_c bs p2 0)), .unset, .unset, .unset, .unset] [])
          refine Rch.go (fun _ q => XS.sipush X0.here hx rfl (hb hby d3_75) q) ?_
          show Rch p ev below _ s₁ (mkF m 78 #[.val (.ref a1), .val (.int p2), .val (.int (3 : Int32)), .val (.int (own_c bs p2 0)), .unset, .unset, .unset, .unset] [(.int (128 : Int32))])
          refine Rch.go (fun _ q => XS.istore X0.here hx rfl (hb hby d3_78) rfl (l' := #[.val (.ref a1), .val (.int p2), .val (.int (3 : Int32)), .val (.int (own_c bs p2 0)), .val (.int (128 : Int32)), .unset, .unset, .unset]) rfl q) ?_
          show Rch p ev below _ s₁ (mkF m 80 #[.val (.ref a1), .val (.int p2), .val (.int (3 : Int32)), .val (.int (own_c bs p2 0)), .val (.int (128 : Int32)), .unset, .unset, .unset] [])
          refine Rch.go (fun _ q => XS.sipush X0.here hx rfl (hb hby d3_80) q) ?_
          show Rch p ev below _ s₁ (mkF m 83 #[.val (.ref a1), .val (.int p2), .val (.int (3 : Int32)), .val (.int (own_c bs p2 0)), .val (.int (128 : Int32)), .unset, .unset, .unset] [(.int (143 : Int32))])
          refine Rch.go (fun _ q => XS.istore X0.here hx rfl (hb hby d3_83) rfl (l' := #[.val (.ref a1), .val (.int p2), .val (.int (3 : Int32)), .val (.int (own_c bs p2 0)), .val (.int (128 : Int32)), .val (.int (143 : Int32)), .unset, .unset]) rfl q) ?_
          show Rch p ev below _ s₁ (mkF m 85 #[.val (.ref a1), .val (.int p2), .val (.int (3 : Int32)), .val (.int (own_c bs p2 0)), .val (.int (128 : Int32)), .val (.int (143 : Int32)), .unset, .unset] [])
          refine Rch.go (fun _ q => XS.goto X0.here hx rfl (pc0 := 85) (pc' := 98) rfl (hb hby d3_85) (by decide) (by decide) q) ?_
          show Rch p ev below _ s₁ (mkF m 98 #[.val (.ref a1), .val (.int p2), .val (.int (3 : Int32)), .val (.int (own_c bs p2 0)), .val (.int (128 : Int32)), .val (.int (143 : Int32)), .unset, .unset] [])
          exact tail _ _ (by simp only [own_lo, hc12, hc32, hc52, hc72, if_true, if_false]; first | done | rfl | decide) (by simp only [own_hi, hc12, hc32, hc52, hc72, if_true, if_false]; first | done | rfl | decide)
        · skip
          refine Rch.go (fun _ q => XS.icmpYes X0.here hx rfl (pc0 := 72) (pc' := 88) rfl (hb hby d3_72) rfl (feq hc72).2 (by decide) (by decide) q) ?_
          show Rch p ev below _ s₁ (mkF m 88 #[.val (.ref a1), .val (.int p2), .val (.int (3 : Int32)), .val (.int (own_c bs p2 0)), .unset, .unset, .unset, .unset] [])
          refine Rch.go (fun _ q => XS.sipush X0.here hx rfl (hb hby d3_88) q) ?_
          show Rch p ev below _ s₁ (mkF m 91 #[.val (.ref a1), .val (.int p2), .val (.int (3 : Int32)), .val (.int (own_c bs p2 0)), .unset, .unset, .unset, .unset] [(.int (128 : Int32))])
          refine Rch.go (fun _ q => XS.istore X0.here hx rfl (hb hby d3_91) rfl (l' := #[.val (.ref a1), .val (.int p2), .val (.int (3 : Int32)), .val (.int (own_c bs p2 0)), .val (.int (128 : Int32)), .unset, .unset, .unset]) rfl q) ?_
          show Rch p ev below _ s₁ (mkF m 93 #[.val (.ref a1), .val (.int p2), .val (.int (3 : Int32)), .val (.int (own_c bs p2 0)), .val (.int (128 : Int32)), .unset, .unset, .unset] [])
          refine Rch.go (fun _ q => XS.sipush X0.here hx rfl (hb hby d3_93) q) ?_
          show Rch p ev below _ s₁ (mkF m 96 #[.val (.ref a1), .val (.int p2), .val (.int (3 : Int32)), .val (.int (own_c bs p2 0)), .val (.int (128 : Int32)), .unset, .unset, .unset] [(.int (191 : Int32))])
          refine Rch.go (fun _ q => XS.istore X0.here hx rfl (hb hby d3_96) rfl (l' := #[.val (.ref a1), .val (.int p2), .val (.int (3 : Int32)), .val (.int (own_c bs p2 0)), .val (.int (128 : Int32)), .val (.int (191 : Int32)), .unset, .unset]) rfl q) ?_
          show Rch p ev below _ s₁ (mkF m 98 #[.val (.ref a1), .val (.int p2), .val (.int (3 : Int32)), .val (.int (own_c bs p2 0)), .val (.int (128 : Int32)), .val (.int (191 : Int32)), .unset, .unset] [])
          exact tail _ _ (by simp only [own_lo, hc12, hc32, hc52, hc72, if_true, if_false]; first | done | rfl | decide) (by simp only [own_hi, hc12, hc32, hc52, hc72, if_true, if_false]; first | done | rfl | decide)
theorem own_ef6 (m : MethodId) (x0 : Addr) (x1 : Int32) (x2 : Int32) : entryFrame m #[(.ref x0), (.int x1), (.int x2)] 8 = mkF m 0 #[.val (.ref x0), .val (.int x1), .val (.int x2), .unset, .unset, .unset, .unset, .unset] [] := by first | (simp [entryFrame, mkF, argsToLocals, Value.category, maxLocals]; done) | rfl
def Qrm3_4 (Z : State) (a1 : Addr) (p2 : Int32) (k1 : ClassId) (bs : List Int32) (h0 : Heap) (n0 : Nat) : Option Value → Heap → List Loc → Prop := fun v h L => v = some (.int (own_cn4 (own_c bs p2 1) (own_c bs p2 2) (own_c bs p2 3) (own_lo (own_c bs p2 0)) (own_hi (own_c bs p2 0)))) ∧ Fr n0 L ∧ h = h0
set_option maxRecDepth 65536 in
set_option maxHeartbeats 40000000 in
theorem rm3_4 (l : Launch) (Z : State) (a0 : Array Value) (hw : ∀ d ∈ tables_1, d.before a0 Z = true) (ws : List Jvm.Cond) (a1 : Addr) (p2 : Int32) (k1 : ClassId) (bs : List Int32) (h0 : Heap) (n0 : Nat) (Z0 : n0 ≤ h0.size) (V1 : Arv Z h0 a1 k1 .byte (6 : Int32) (bs.map Value.int) (.int 0)) (hi0 : 0 ≤ p2.toInt) (hi6 : p2.toInt + 4 ≤ 6) :
    MetFree l (⟨"com/example/slicewright/slicewright/runtime/Utf8", "continues", "([BII)Z"⟩ : MethodName) (head1 (Jvm.Cond.code (⟨"com/example/slicewright/slicewright/runtime/Utf8", "continues", "([BII)Z"⟩ : MethodName) prog_97_method_6_code 8 (some .boolean) :: ws) ({ frames := 1, cells := 0, slots := 0, locals := 20 } : Room)) (fun a U => a = #[(.ref a1), (.int p2), (.int (4 : Int32))] ∧ Z.Warmed39 U.vm ∧ U.heap = h0) (fun _ _ _ _ _ => True) (fun _ U o U' => ∃ v L, o = .returned v ∧ (Qrm3_4 Z a1 p2 k1 bs h0 n0) v U'.heap L ∧ FrameEnd U o U' L ({ frames := 1, cells := 0, slots := 0, locals := 20 } : Room).cells ({ frames := 1, cells := 0, slots := 0, locals := 20 } : Room).slots) := by
  refine MetFree.of_bodySF own_pn2 hisR ?_
  intro p ev s m args below meth c s₁ Bd hml0 hP hK
  obtain ⟨rfl, hZ, hh⟩ := hP
  have hx := Bd.exec
  have hby := Bd.bytes
  have hlk := Bd.notSynchronized
  have hml : c.maxLocals = 8 := hml0
  have hown : s.vm.findClass "com/example/slicewright/slicewright/runtime/Utf8" = some m.cls := findClass_of_methodNamed Bd.named
  have hnm := (name_of_methodNamed Bd.named Bd.method).1
  have X0 : Stand p l ev ({ frames := 1, cells := 0, slots := 0, locals := 20 } : Room) s m #[(.ref a1), (.int p2), (.int (4 : Int32))] below meth c s₁ [] 0 0 := Stand.of_body Bd
  have e0 : s₁.heap = h0 := by rw [← hh, Bd.state]; rfl
  have N0 := Fr.nil n0
  refine Rch.entry (G := (EndQ (Qrm3_4 Z a1 p2 k1 bs h0 n0) s ({ frames := 1, cells := 0, slots := 0, locals := 20 } : Room).cells ({ frames := 1, cells := 0, slots := 0, locals := 20 } : Room).slots)) (own_ef6 m a1 p2 (4 : Int32)) ?_
  have hbool : ∀ x : Int32, nar .boolean x = x &&& 1 := fun _ => rfl
  show Rch p ev below _ s₁ (mkF m 0 #[.val (.ref a1), .val (.int p2), .val (.int (4 : Int32)), .unset, .unset, .unset, .unset, .unset] [])
  have tail : ∀ (lo hi : Int32) (hlo : own_lo (own_c bs p2 0) = lo) (hhi : own_hi (own_c bs p2 0) = hi), Rch p ev below (EndQ (Qrm3_4 Z a1 p2 k1 bs h0 n0) s ({ frames := 1, cells := 0, slots := 0, locals := 20 } : Room).cells ({ frames := 1, cells := 0, slots := 0, locals := 20 } : Room).slots) s₁ (mkF m 98 #[.val (.ref a1), .val (.int p2), .val (.int (4 : Int32)), .val (.int (own_c bs p2 0)), .val (.int lo), .val (.int hi), .unset, .unset] []) := by
    intro lo hi hlo hhi
    show Rch p ev below _ s₁ (mkF m 98 #[.val (.ref a1), .val (.int p2), .val (.int (4 : Int32)), .val (.int (own_c bs p2 0)), .val (.int lo), .val (.int hi), .unset, .unset] [])
    refine Rch.go (fun _ q => XS.iloadN X0.here hx rfl (hb hby d3_98) rfl  q) ?_
    show Rch p ev below _ s₁ (mkF m 99 #[.val (.ref a1), .val (.int p2), .val (.int (4 : Int32)), .val (.int (own_c bs p2 0)), .val (.int lo), .val (.int hi), .unset, .unset] [(.int (4 : Int32))])
    refine Rch.go (fun _ q => XS.iconst X0.here hx rfl (hb hby d3_99) q) ?_
    show Rch p ev below _ s₁ (mkF m 100 #[.val (.ref a1), .val (.int p2), .val (.int (4 : Int32)), .val (.int (own_c bs p2 0)), .val (.int lo), .val (.int hi), .unset, .unset] [(.int (1 : Int32)), (.int (4 : Int32))])
    refine Rch.go (fun _ q => XS.icmpNo X0.here hx rfl (hb hby d3_100) rfl (feq (by decide)).1 q) ?_
    show Rch p ev below _ s₁ (mkF m 103 #[.val (.ref a1), .val (.int p2), .val (.int (4 : Int32)), .val (.int (own_c bs p2 0)), .val (.int lo), .val (.int hi), .unset, .unset] [])
    refine Rch.go (fun _ q => XS.aloadN X0.here hx rfl (hb hby d3_103) rfl rfl q) ?_
    show Rch p ev below _ s₁ (mkF m 104 #[.val (.ref a1), .val (.int p2), .val (.int (4 : Int32)), .val (.int (own_c bs p2 0)), .val (.int lo), .val (.int hi), .unset, .unset] [(.ref a1)])
    refine Rch.go (fun _ q => XS.iloadN X0.here hx rfl (hb hby d3_104) rfl  q) ?_
    show Rch p ev below _ s₁ (mkF m 105 #[.val (.ref a1), .val (.int p2), .val (.int (4 : Int32)), .val (.int (own_c bs p2 0)), .val (.int lo), .val (.int hi), .unset, .unset] [(.int p2), (.ref a1)])
    refine Rch.go (fun _ q => XS.iconst X0.here hx rfl (hb hby d3_105) q) ?_
    show Rch p ev below _ s₁ (mkF m 106 #[.val (.ref a1), .val (.int p2), .val (.int (4 : Int32)), .val (.int (own_c bs p2 0)), .val (.int lo), .val (.int hi), .unset, .unset] [(.int (1 : Int32)), (.int p2), (.ref a1)])
    refine Rch.go (fun _ q => XS.iadd X0.here hx rfl (hb hby d3_106) rfl q) ?_
    show Rch p ev below _ s₁ (mkF m 107 #[.val (.ref a1), .val (.int p2), .val (.int (4 : Int32)), .val (.int (own_c bs p2 0)), .val (.int lo), .val (.int hi), .unset, .unset] [(.int (p2 + (1 : Int32))), (.ref a1)])
    refine Rch.go (fun _ q => ldB X0 hx hZ e0 V1 (j := (p2 + (1 : Int32))) (v := (.int (bs.getD (p2.toNatClampNeg + 1) 0))) (own_jk p2 (1 : Int32) 1 rfl hi0 (by omega)).1 (by rw [(own_jk p2 (1 : Int32) 1 rfl hi0 (by omega)).2]; exact own_rd bs _) (g := (mkF m 107 #[.val (.ref a1), .val (.int p2), .val (.int (4 : Int32)), .val (.int (own_c bs p2 0)), .val (.int lo), .val (.int hi), .unset, .unset] [(.int (p2 + (1 : Int32))), (.ref a1)])) rfl rfl (hb hby d3_107) _ q) ?_
    show Rch p ev below _ s₁ (mkF m 108 #[.val (.ref a1), .val (.int p2), .val (.int (4 : Int32)), .val (.int (own_c bs p2 0)), .val (.int lo), .val (.int hi), .unset, .unset] [(.int (bs.getD (p2.toNatClampNeg + 1) 0))])
    refine Rch.go (fun _ q => XS.iload X0.here hx rfl (hb hby d3_108) rfl  q) ?_
    show Rch p ev below _ s₁ (mkF m 110 #[.val (.ref a1), .val (.int p2), .val (.int (4 : Int32)), .val (.int (own_c bs p2 0)), .val (.int lo), .val (.int hi), .unset, .unset] [(.int lo), (.int (bs.getD (p2.toNatClampNeg + 1) 0))])
    refine Rch.go (fun _ q => XS.iload X0.here hx rfl (hb hby d3_110) rfl  q) ?_
    show Rch p ev below _ s₁ (mkF m 112 #[.val (.ref a1), .val (.int p2), .val (.int (4 : Int32)), .val (.int (own_c bs p2 0)), .val (.int lo), .val (.int hi), .unset, .unset] [(.int hi), (.int lo), (.int (bs.getD (p2.toNatClampNeg + 1) 0))])
    obtain ⟨_, _, ⟨T101, L101, k101, n101⟩, -, X101, ⟨Lc101, hQ101, l101, y101, z101⟩, st101⟩ := Jvm.LawKit.callS X0 hx (y := (⟨"com/example/slicewright/slicewright/runtime/Utf8", "inRange", "(BII)Z"⟩ : MethodName)) hown (mvT hZ (hw _ (List.mem_of_getElem? (i := 19) rfl))) (mvT hZ (hw _ (List.mem_of_getElem? (i := 20) rfl))) (mvT hZ (hw _ (List.mem_of_getElem? (i := 4) rfl))) (mvT hZ (hw _ (List.mem_of_getElem? (i := 21) rfl))) (by decide) (backOf (W := 0) (rm2 l Z a0 hw [] (bs.getD (p2.toNatClampNeg + 1) 0) lo hi h0 n0 Z0) hZ (hw _ (List.mem_of_getElem? (i := 21) rfl)) (hw _ (List.mem_of_getElem? (i := 4) rfl)) (by decide) (by decide)) (g := (mkF m 112 #[.val (.ref a1), .val (.int p2), .val (.int (4 : Int32)), .val (.int (own_c bs p2 0)), .val (.int lo), .val (.int hi), .unset, .unset] [(.int hi), (.int lo), (.int (bs.getD (p2.toNatClampNeg + 1) 0))])) rfl (by rw [hml]; rfl) (argsL := [(.int (bs.getD (p2.toNatClampNeg + 1) 0)), (.int lo), (.int hi)]) (rest := []) (lenOf own_pd1 rfl) rfl (by show 2 * 0 + _ ≤ _; exact Nat.le_of_eq rfl) (hb hby d3_112) (fun _ _ => ⟨rfl, e0, (by decide : 0 + 0 ≤ _), (by decide : 0 + 0 ≤ _)⟩)
    dsimp only [Pt.U, Pt.locs, Pt.cells, Pt.slots] at X101 l101 y101 z101 st101 hQ101
    subst l101 y101 z101
    obtain ⟨rfl, Nc, ec⟩ := hQ101
    refine Rch.go st101 ?_
    show Rch p ev below _ T101 (mkF m 115 #[.val (.ref a1), .val (.int p2), .val (.int (4 : Int32)), .val (.int (own_c bs p2 0)), .val (.int lo), .val (.int hi), .unset, .unset] [(.int (own_ir (own_c bs p2 1) lo hi))])
    have N101 := Fr.app N0 Nc
    have e101 := ec
    by_cases hc115 : (own_ir (own_c bs p2 1) lo hi) = (0 : Int32)
    · skip
      refine Rch.go (fun _ q => XS.ifYes X101.here hx rfl (pc0 := 115) (pc' := 122) rfl (hb hby d3_115) rfl ((if0 _ _).trans (teq hc115).1) (by decide) (by decide) q) ?_
      show Rch p ev below _ T101 (mkF m 122 #[.val (.ref a1), .val (.int p2), .val (.int (4 : Int32)), .val (.int (own_c bs p2 0)), .val (.int lo), .val (.int hi), .unset, .unset] [])
      refine Rch.go (fun _ q => XS.iconst X101.here hx rfl (hb hby d3_122) q) ?_
      show Rch p ev below _ T101 (mkF m 123 #[.val (.ref a1), .val (.int p2), .val (.int (4 : Int32)), .val (.int (own_c bs p2 0)), .val (.int lo), .val (.int hi), .unset, .unset] [(.int (0 : Int32))])
      refine Rch.go (fun _ q => XS.istore X101.here hx rfl (hb hby d3_123) rfl (l' := #[.val (.ref a1), .val (.int p2), .val (.int (4 : Int32)), .val (.int (own_c bs p2 0)), .val (.int lo), .val (.int hi), .val (.int (0 : Int32)), .unset]) rfl q) ?_
      show Rch p ev below _ T101 (mkF m 125 #[.val (.ref a1), .val (.int p2), .val (.int (4 : Int32)), .val (.int (own_c bs p2 0)), .val (.int lo), .val (.int hi), .val (.int (0 : Int32)), .unset] [])
      refine Rch.go (fun _ q => XS.iconst X101.here hx rfl (hb hby d3_125) q) ?_
      show Rch p ev below _ T101 (mkF m 126 #[.val (.ref a1), .val (.int p2), .val (.int (4 : Int32)), .val (.int (own_c bs p2 0)), .val (.int lo), .val (.int hi), .val (.int (0 : Int32)), .unset] [(.int (2 : Int32))])
      refine Rch.go (fun _ q => XS.istore X101.here hx rfl (hb hby d3_126) rfl (l' := #[.val (.ref a1), .val (.int p2), .val (.int (4 : Int32)), .val (.int (own_c bs p2 0)), .val (.int lo), .val (.int hi), .val (.int (0 : Int32)), .val (.int (2 : Int32))]) rfl q) ?_
      show Rch p ev below _ T101 (mkF m 128 #[.val (.ref a1), .val (.int p2), .val (.int (4 : Int32)), .val (.int (own_c bs p2 0)), .val (.int lo), .val (.int hi), .val (.int (0 : Int32)), .val (.int (2 : Int32))] [])
      refine Rch.go (fun _ q => XS.iload X101.here hx rfl (hb hby d3_128) rfl  q) ?_
      show Rch p ev below _ T101 (mkF m 130 #[.val (.ref a1), .val (.int p2), .val (.int (4 : Int32)), .val (.int (own_c bs p2 0)), .val (.int lo), .val (.int hi), .val (.int (0 : Int32)), .val (.int (2 : Int32))] [(.int (2 : Int32))])
      refine Rch.go (fun _ q => XS.iloadN X101.here hx rfl (hb hby d3_130) rfl  q) ?_
      show Rch p ev below _ T101 (mkF m 131 #[.val (.ref a1), .val (.int p2), .val (.int (4 : Int32)), .val (.int (own_c bs p2 0)), .val (.int lo), .val (.int hi), .val (.int (0 : Int32)), .val (.int (2 : Int32))] [(.int (4 : Int32)), (.int (2 : Int32))])
      refine Rch.go (fun _ q => XS.icmpNo X101.here hx rfl (hb hby d3_131) rfl (tlt (by decide)).2.1 q) ?_
      show Rch p ev below _ T101 (mkF m 134 #[.val (.ref a1), .val (.int p2), .val (.int (4 : Int32)), .val (.int (own_c bs p2 0)), .val (.int lo), .val (.int hi), .val (.int (0 : Int32)), .val (.int (2 : Int32))] [])
      refine Rch.go (fun _ q => XS.iload X101.here hx rfl (hb hby d3_134) rfl  q) ?_
      show Rch p ev below _ T101 (mkF m 136 #[.val (.ref a1), .val (.int p2), .val (.int (4 : Int32)), .val (.int (own_c bs p2 0)), .val (.int lo), .val (.int hi), .val (.int (0 : Int32)), .val (.int (2 : Int32))] [(.int (0 : Int32))])
      refine Rch.go (fun _ q => XS.ifYes X101.here hx rfl (pc0 := 136) (pc' := 162) rfl (hb hby d3_136) rfl ((if0 _ _).trans (teq (by decide)).1) (by decide) (by decide) q) ?_
      show Rch p ev below _ T101 (mkF m 162 #[.val (.ref a1), .val (.int p2), .val (.int (4 : Int32)), .val (.int (own_c bs p2 0)), .val (.int lo), .val (.int hi), .val (.int (0 : Int32)), .val (.int (2 : Int32))] [])
      refine Rch.go (fun _ q => XS.iload X101.here hx rfl (hb hby d3_162) rfl  q) ?_
      show Rch p ev below _ T101 (mkF m 164 #[.val (.ref a1), .val (.int p2), .val (.int (4 : Int32)), .val (.int (own_c bs p2 0)), .val (.int lo), .val (.int hi), .val (.int (0 : Int32)), .val (.int (2 : Int32))] [(.int (0 : Int32))])
      refine Rch.retZ X101 hx hlk Bd.returns (hb hby d3_164) (by decide) (by decide) ?_
      unfold Qrm3_4
      exact ⟨by simp only [own_cn1, own_cn2, own_cn3, own_cn4, hlo, hhi, own_ir_n, hc115,  if_true, if_false]; first | done | rfl, N101, e101⟩
    · skip
      refine Rch.go (fun _ q => XS.ifNo X101.here hx rfl (hb hby d3_115) rfl ((if0 _ _).trans (feq hc115).1) q) ?_
      show Rch p ev below _ T101 (mkF m 118 #[.val (.ref a1), .val (.int p2), .val (.int (4 : Int32)), .val (.int (own_c bs p2 0)), .val (.int lo), .val (.int hi), .unset, .unset] [])
      refine Rch.go (fun _ q => XS.iconst X101.here hx rfl (hb hby d3_118) q) ?_
      show Rch p ev below _ T101 (mkF m 119 #[.val (.ref a1), .val (.int p2), .val (.int (4 : Int32)), .val (.int (own_c bs p2 0)), .val (.int lo), .val (.int hi), .unset, .unset] [(.int (1 : Int32))])
      refine Rch.go (fun _ q => XS.goto X101.here hx rfl (pc0 := 119) (pc' := 123) rfl (hb hby d3_119) (by decide) (by decide) q) ?_
      show Rch p ev below _ T101 (mkF m 123 #[.val (.ref a1), .val (.int p2), .val (.int (4 : Int32)), .val (.int (own_c bs p2 0)), .val (.int lo), .val (.int hi), .unset, .unset] [(.int (1 : Int32))])
      refine Rch.go (fun _ q => XS.istore X101.here hx rfl (hb hby d3_123) rfl (l' := #[.val (.ref a1), .val (.int p2), .val (.int (4 : Int32)), .val (.int (own_c bs p2 0)), .val (.int lo), .val (.int hi), .val (.int (1 : Int32)), .unset]) rfl q) ?_
      show Rch p ev below _ T101 (mkF m 125 #[.val (.ref a1), .val (.int p2), .val (.int (4 : Int32)), .val (.int (own_c bs p2 0)), .val (.int lo), .val (.int hi), .val (.int (1 : Int32)), .unset] [])
      refine Rch.go (fun _ q => XS.iconst X101.here hx rfl (hb hby d3_125) q) ?_
      show Rch p ev below _ T101 (mkF m 126 #[.val (.ref a1), .val (.int p2), .val (.int (4 : Int32)), .val (.int (own_c bs p2 0)), .val (.int lo), .val (.int hi), .val (.int (1 : Int32)), .unset] [(.int (2 : Int32))])
      refine Rch.go (fun _ q => XS.istore X101.here hx rfl (hb hby d3_126) rfl (l' := #[.val (.ref a1), .val (.int p2), .val (.int (4 : Int32)), .val (.int (own_c bs p2 0)), .val (.int lo), .val (.int hi), .val (.int (1 : Int32)), .val (.int (2 : Int32))]) rfl q) ?_
      show Rch p ev below _ T101 (mkF m 128 #[.val (.ref a1), .val (.int p2), .val (.int (4 : Int32)), .val (.int (own_c bs p2 0)), .val (.int lo), .val (.int hi), .val (.int (1 : Int32)), .val (.int (2 : Int32))] [])
      refine Rch.go (fun _ q => XS.iload X101.here hx rfl (hb hby d3_128) rfl  q) ?_
      show Rch p ev below _ T101 (mkF m 130 #[.val (.ref a1), .val (.int p2), .val (.int (4 : Int32)), .val (.int (own_c bs p2 0)), .val (.int lo), .val (.int hi), .val (.int (1 : Int32)), .val (.int (2 : Int32))] [(.int (2 : Int32))])
      refine Rch.go (fun _ q => XS.iloadN X101.here hx rfl (hb hby d3_130) rfl  q) ?_
      show Rch p ev below _ T101 (mkF m 131 #[.val (.ref a1), .val (.int p2), .val (.int (4 : Int32)), .val (.int (own_c bs p2 0)), .val (.int lo), .val (.int hi), .val (.int (1 : Int32)), .val (.int (2 : Int32))] [(.int (4 : Int32)), (.int (2 : Int32))])
      refine Rch.go (fun _ q => XS.icmpNo X101.here hx rfl (hb hby d3_131) rfl (tlt (by decide)).2.1 q) ?_
      show Rch p ev below _ T101 (mkF m 134 #[.val (.ref a1), .val (.int p2), .val (.int (4 : Int32)), .val (.int (own_c bs p2 0)), .val (.int lo), .val (.int hi), .val (.int (1 : Int32)), .val (.int (2 : Int32))] [])
      refine Rch.go (fun _ q => XS.iload X101.here hx rfl (hb hby d3_134) rfl  q) ?_
      show Rch p ev below _ T101 (mkF m 136 #[.val (.ref a1), .val (.int p2), .val (.int (4 : Int32)), .val (.int (own_c bs p2 0)), .val (.int lo), .val (.int hi), .val (.int (1 : Int32)), .val (.int (2 : Int32))] [(.int (1 : Int32))])
      refine Rch.go (fun _ q => XS.ifNo X101.here hx rfl (hb hby d3_136) rfl ((if0 _ _).trans (feq (by decide)).1) q) ?_
      show Rch p ev below _ T101 (mkF m 139 #[.val (.ref a1), .val (.int p2), .val (.int (4 : Int32)), .val (.int (own_c bs p2 0)), .val (.int lo), .val (.int hi), .val (.int (1 : Int32)), .val (.int (2 : Int32))] [])
      refine Rch.go (fun _ q => XS.aloadN X101.here hx rfl (hb hby d3_139) rfl rfl q) ?_
      show Rch p ev below _ T101 (mkF m 140 #[.val (.ref a1), .val (.int p2), .val (.int (4 : Int32)), .val (.int (own_c bs p2 0)), .val (.int lo), .val (.int hi), .val (.int (1 : Int32)), .val (.int (2 : Int32))] [(.ref a1)])
      refine Rch.go (fun _ q => XS.iloadN X101.here hx rfl (hb hby d3_140) rfl  q) ?_
      show Rch p ev below _ T101 (mkF m 141 #[.val (.ref a1), .val (.int p2), .val (.int (4 : Int32)), .val (.int (own_c bs p2 0)), .val (.int lo), .val (.int hi), .val (.int (1 : Int32)), .val (.int (2 : Int32))] [(.int p2), (.ref a1)])
      refine Rch.go (fun _ q => XS.iload X101.here hx rfl (hb hby d3_141) rfl  q) ?_
      show Rch p ev below _ T101 (mkF m 143 #[.val (.ref a1), .val (.int p2), .val (.int (4 : Int32)), .val (.int (own_c bs p2 0)), .val (.int lo), .val (.int hi), .val (.int (1 : Int32)), .val (.int (2 : Int32))] [(.int (2 : Int32)), (.int p2), (.ref a1)])
      refine Rch.go (fun _ q => XS.iadd X101.here hx rfl (hb hby d3_143) rfl q) ?_
      show Rch p ev below _ T101 (mkF m 144 #[.val (.ref a1), .val (.int p2), .val (.int (4 : Int32)), .val (.int (own_c bs p2 0)), .val (.int lo), .val (.int hi), .val (.int (1 : Int32)), .val (.int (2 : Int32))] [(.int (p2 + (2 : Int32))), (.ref a1)])
      refine Rch.go (fun _ q => ldB X101 hx hZ e101 V1 (j := (p2 + (2 : Int32))) (v := (.int (bs.getD (p2.toNatClampNeg + 2) 0))) (own_jk p2 (2 : Int32) 2 rfl hi0 (by omega)).1 (by rw [(own_jk p2 (2 : Int32) 2 rfl hi0 (by omega)).2]; exact own_rd bs _) (g := (mkF m 144 #[.val (.ref a1), .val (.int p2), .val (.int (4 : Int32)), .val (.int (own_c bs p2 0)), .val (.int lo), .val (.int hi), .val (.int (1 : Int32)), .val (.int (2 : Int32))] [(.int (p2 + (2 : Int32))), (.ref a1)])) rfl rfl (hb hby d3_144) _ q) ?_
      show Rch p ev below _ T101 (mkF m 145 #[.val (.ref a1), .val (.int p2), .val (.int (4 : Int32)), .val (.int (own_c bs p2 0)), .val (.int lo), .val (.int hi), .val (.int (1 : Int32)), .val (.int (2 : Int32))] [(.int (bs.getD (p2.toNatClampNeg + 2) 0))])
      refine Rch.go (fun _ q => XS.sipush X101.here hx rfl (hb hby d3_145) q) ?_
      show Rch p ev below _ T101 (mkF m 148 #[.val (.ref a1), .val (.int p2), .val (.int (4 : Int32)), .val (.int (own_c bs p2 0)), .val (.int lo), .val (.int hi), .val (.int (1 : Int32)), .val (.int (2 : Int32))] [(.int (128 : Int32)), (.int (bs.getD (p2.toNatClampNeg + 2) 0))])
      refine Rch.go (fun _ q => XS.sipush X101.here hx rfl (hb hby d3_148) q) ?_
      show Rch p ev below _ T101 (mkF m 151 #[.val (.ref a1), .val (.int p2), .val (.int (4 : Int32)), .val (.int (own_c bs p2 0)), .val (.int lo), .val (.int hi), .val (.int (1 : Int32)), .val (.int (2 : Int32))] [(.int (191 : Int32)), (.int (128 : Int32)), (.int (bs.getD (p2.toNatClampNeg + 2) 0))])
      obtain ⟨_, _, ⟨T102, L102, k102, n102⟩, -, X102, ⟨Lc102, hQ102, l102, y102, z102⟩, st102⟩ := Jvm.LawKit.callS X101 hx (y := (⟨"com/example/slicewright/slicewright/runtime/Utf8", "inRange", "(BII)Z"⟩ : MethodName)) hown (mvT hZ (hw _ (List.mem_of_getElem? (i := 19) rfl))) (mvT hZ (hw _ (List.mem_of_getElem? (i := 20) rfl))) (mvT hZ (hw _ (List.mem_of_getElem? (i := 4) rfl))) (mvT hZ (hw _ (List.mem_of_getElem? (i := 21) rfl))) (by decide) (backOf (W := 0) (rm2 l Z a0 hw [] (bs.getD (p2.toNatClampNeg + 2) 0) 128 191 h0 n0 Z0) hZ (hw _ (List.mem_of_getElem? (i := 21) rfl)) (hw _ (List.mem_of_getElem? (i := 4) rfl)) (by decide) (by decide)) (g := (mkF m 151 #[.val (.ref a1), .val (.int p2), .val (.int (4 : Int32)), .val (.int (own_c bs p2 0)), .val (.int lo), .val (.int hi), .val (.int (1 : Int32)), .val (.int (2 : Int32))] [(.int (191 : Int32)), (.int (128 : Int32)), (.int (bs.getD (p2.toNatClampNeg + 2) 0))])) rfl (by rw [hml]; rfl) (argsL := [(.int (bs.getD (p2.toNatClampNeg + 2) 0)), (.int (128 : Int32)), (.int (191 : Int32))]) (rest := []) (lenOf own_pd1 rfl) rfl (by show 2 * 0 + _ ≤ _; exact Nat.le_of_eq rfl) (hb hby d3_151) (fun _ _ => ⟨rfl, e101, (by decide : 0 + 0 ≤ _), (by decide : 0 + 0 ≤ _)⟩)
      dsimp only [Pt.U, Pt.locs, Pt.cells, Pt.slots] at X102 l102 y102 z102 st102 hQ102
      subst l102 y102 z102
      obtain ⟨rfl, Nc, ec⟩ := hQ102
      refine Rch.go st102 ?_
      show Rch p ev below _ T102 (mkF m 154 #[.val (.ref a1), .val (.int p2), .val (.int (4 : Int32)), .val (.int (own_c bs p2 0)), .val (.int lo), .val (.int hi), .val (.int (1 : Int32)), .val (.int (2 : Int32))] [(.int (own_ir (own_c bs p2 2) 128 191))])
      have N102 := Fr.app N101 Nc
      have e102 := ec
      refine Rch.go (fun _ q => XS.istore X102.here hx rfl (hb hby d3_154) rfl (l' := #[.val (.ref a1), .val (.int p2), .val (.int (4 : Int32)), .val (.int (own_c bs p2 0)), .val (.int lo), .val (.int hi), .val (.int (own_ir (own_c bs p2 2) 128 191)), .val (.int (2 : Int32))]) rfl q) ?_
      show Rch p ev below _ T102 (mkF m 156 #[.val (.ref a1), .val (.int p2), .val (.int (4 : Int32)), .val (.int (own_c bs p2 0)), .val (.int lo), .val (.int hi), .val (.int (own_ir (own_c bs p2 2) 128 191)), .val (.int (2 : Int32))] [])
      refine Rch.go (fun _ q => XS.iinc X102.here hx rfl (hb hby d3_156) rfl (l' := #[.val (.ref a1), .val (.int p2), .val (.int (4 : Int32)), .val (.int (own_c bs p2 0)), .val (.int lo), .val (.int hi), .val (.int (own_ir (own_c bs p2 2) 128 191)), .val (.int (3 : Int32))]) rfl q) ?_
      show Rch p ev below _ T102 (mkF m 159 #[.val (.ref a1), .val (.int p2), .val (.int (4 : Int32)), .val (.int (own_c bs p2 0)), .val (.int lo), .val (.int hi), .val (.int (own_ir (own_c bs p2 2) 128 191)), .val (.int (3 : Int32))] [])
      refine Rch.go (fun _ q => XS.goto X102.here hx rfl (pc0 := 159) (pc' := 128) rfl (hb hby d3_159) (by decide) (by decide) q) ?_
      show Rch p ev below _ T102 (mkF m 128 #[.val (.ref a1), .val (.int p2), .val (.int (4 : Int32)), .val (.int (own_c bs p2 0)), .val (.int lo), .val (.int hi), .val (.int (own_ir (own_c bs p2 2) 128 191)), .val (.int (3 : Int32))] [])
      refine Rch.go (fun _ q => XS.iload X102.here hx rfl (hb hby d3_128) rfl  q) ?_
      show Rch p ev below _ T102 (mkF m 130 #[.val (.ref a1), .val (.int p2), .val (.int (4 : Int32)), .val (.int (own_c bs p2 0)), .val (.int lo), .val (.int hi), .val (.int (own_ir (own_c bs p2 2) 128 191)), .val (.int (3 : Int32))] [(.int (3 : Int32))])
      refine Rch.go (fun _ q => XS.iloadN X102.here hx rfl (hb hby d3_130) rfl  q) ?_
      show Rch p ev below _ T102 (mkF m 131 #[.val (.ref a1), .val (.int p2), .val (.int (4 : Int32)), .val (.int (own_c bs p2 0)), .val (.int lo), .val (.int hi), .val (.int (own_ir (own_c bs p2 2) 128 191)), .val (.int (3 : Int32))] [(.int (4 : Int32)), (.int (3 : Int32))])
      refine Rch.go (fun _ q => XS.icmpNo X102.here hx rfl (hb hby d3_131) rfl (tlt (by decide)).2.1 q) ?_
      show Rch p ev below _ T102 (mkF m 134 #[.val (.ref a1), .val (.int p2), .val (.int (4 : Int32)), .val (.int (own_c bs p2 0)), .val (.int lo), .val (.int hi), .val (.int (own_ir (own_c bs p2 2) 128 191)), .val (.int (3 : Int32))] [])
      refine Rch.go (fun _ q => XS.iload X102.here hx rfl (hb hby d3_134) rfl  q) ?_
      show Rch p ev below _ T102 (mkF m 136 #[.val (.ref a1), .val (.int p2), .val (.int (4 : Int32)), .val (.int (own_c bs p2 0)), .val (.int lo), .val (.int hi), .val (.int (own_ir (own_c bs p2 2) 128 191)), .val (.int (3 : Int32))] [(.int (own_ir (own_c bs p2 2) 128 191))])
      by_cases hc136 : (own_ir (own_c bs p2 2) 128 191) = (0 : Int32)
      · skip
        refine Rch.go (fun _ q => XS.ifYes X102.here hx rfl (pc0 := 136) (pc' := 162) rfl (hb hby d3_136) rfl ((if0 _ _).trans (teq hc136).1) (by decide) (by decide) q) ?_
        show Rch p ev below _ T102 (mkF m 162 #[.val (.ref a1), .val (.int p2), .val (.int (4 : Int32)), .val (.int (own_c bs p2 0)), .val (.int lo), .val (.int hi), .val (.int (own_ir (own_c bs p2 2) 128 191)), .val (.int (3 : Int32))] [])
        refine Rch.go (fun _ q => XS.iload X102.here hx rfl (hb hby d3_162) rfl  q) ?_
        show Rch p ev below _ T102 (mkF m 164 #[.val (.ref a1), .val (.int p2), .val (.int (4 : Int32)), .val (.int (own_c bs p2 0)), .val (.int lo), .val (.int hi), .val (.int (own_ir (own_c bs p2 2) 128 191)), .val (.int (3 : Int32))] [(.int (own_ir (own_c bs p2 2) 128 191))])
        refine Rch.retZ X102 hx hlk Bd.returns (hb hby d3_164) (by decide) (by decide) ?_
        unfold Qrm3_4
        exact ⟨by simp only [own_cn1, own_cn2, own_cn3, own_cn4, hlo, hhi, own_ir_n, hc115, hc136,  if_true, if_false]; first | done | rfl, N102, e102⟩
      · skip
        refine Rch.go (fun _ q => XS.ifNo X102.here hx rfl (hb hby d3_136) rfl ((if0 _ _).trans (feq hc136).1) q) ?_
        show Rch p ev below _ T102 (mkF m 139 #[.val (.ref a1), .val (.int p2), .val (.int (4 : Int32)), .val (.int (own_c bs p2 0)), .val (.int lo), .val (.int hi), .val (.int (own_ir (own_c bs p2 2) 128 191)), .val (.int (3 : Int32))] [])
        refine Rch.go (fun _ q => XS.aloadN X102.here hx rfl (hb hby d3_139) rfl rfl q) ?_
        show Rch p ev below _ T102 (mkF m 140 #[.val (.ref a1), .val (.int p2), .val (.int (4 : Int32)), .val (.int (own_c bs p2 0)), .val (.int lo), .val (.int hi), .val (.int (own_ir (own_c bs p2 2) 128 191)), .val (.int (3 : Int32))] [(.ref a1)])
        refine Rch.go (fun _ q => XS.iloadN X102.here hx rfl (hb hby d3_140) rfl  q) ?_
        show Rch p ev below _ T102 (mkF m 141 #[.val (.ref a1), .val (.int p2), .val (.int (4 : Int32)), .val (.int (own_c bs p2 0)), .val (.int lo), .val (.int hi), .val (.int (own_ir (own_c bs p2 2) 128 191)), .val (.int (3 : Int32))] [(.int p2), (.ref a1)])
        refine Rch.go (fun _ q => XS.iload X102.here hx rfl (hb hby d3_141) rfl  q) ?_
        show Rch p ev below _ T102 (mkF m 143 #[.val (.ref a1), .val (.int p2), .val (.int (4 : Int32)), .val (.int (own_c bs p2 0)), .val (.int lo), .val (.int hi), .val (.int (own_ir (own_c bs p2 2) 128 191)), .val (.int (3 : Int32))] [(.int (3 : Int32)), (.int p2), (.ref a1)])
        refine Rch.go (fun _ q => XS.iadd X102.here hx rfl (hb hby d3_143) rfl q) ?_
        show Rch p ev below _ T102 (mkF m 144 #[.val (.ref a1), .val (.int p2), .val (.int (4 : Int32)), .val (.int (own_c bs p2 0)), .val (.int lo), .val (.int hi), .val (.int (own_ir (own_c bs p2 2) 128 191)), .val (.int (3 : Int32))] [(.int (p2 + (3 : Int32))), (.ref a1)])
        refine Rch.go (fun _ q => ldB X102 hx hZ e102 V1 (j := (p2 + (3 : Int32))) (v := (.int (bs.getD (p2.toNatClampNeg + 3) 0))) (own_jk p2 (3 : Int32) 3 rfl hi0 (by omega)).1 (by rw [(own_jk p2 (3 : Int32) 3 rfl hi0 (by omega)).2]; exact own_rd bs _) (g := (mkF m 144 #[.val (.ref a1), .val (.int p2), .val (.int (4 : Int32)), .val (.int (own_c bs p2 0)), .val (.int lo), .val (.int hi), .val (.int (own_ir (own_c bs p2 2) 128 191)), .val (.int (3 : Int32))] [(.int (p2 + (3 : Int32))), (.ref a1)])) rfl rfl (hb hby d3_144) _ q) ?_
        show Rch p ev below _ T102 (mkF m 145 #[.val (.ref a1), .val (.int p2), .val (.int (4 : Int32)), .val (.int (own_c bs p2 0)), .val (.int lo), .val (.int hi), .val (.int (own_ir (own_c bs p2 2) 128 191)), .val (.int (3 : Int32))] [(.int (bs.getD (p2.toNatClampNeg + 3) 0))])
        refine Rch.go (fun _ q => XS.sipush X102.here hx rfl (hb hby d3_145) q) ?_
        show Rch p ev below _ T102 (mkF m 148 #[.val (.ref a1), .val (.int p2), .val (.int (4 : Int32)), .val (.int (own_c bs p2 0)), .val (.int lo), .val (.int hi), .val (.int (own_ir (own_c bs p2 2) 128 191)), .val (.int (3 : Int32))] [(.int (128 : Int32)), (.int (bs.getD (p2.toNatClampNeg + 3) 0))])
        refine Rch.go (fun _ q => XS.sipush X102.here hx rfl (hb hby d3_148) q) ?_
        show Rch p ev below _ T102 (mkF m 151 #[.val (.ref a1), .val (.int p2), .val (.int (4 : Int32)), .val (.int (own_c bs p2 0)), .val (.int lo), .val (.int hi), .val (.int (own_ir (own_c bs p2 2) 128 191)), .val (.int (3 : Int32))] [(.int (191 : Int32)), (.int (128 : Int32)), (.int (bs.getD (p2.toNatClampNeg + 3) 0))])
        obtain ⟨_, _, ⟨T103, L103, k103, n103⟩, -, X103, ⟨Lc103, hQ103, l103, y103, z103⟩, st103⟩ := Jvm.LawKit.callS X102 hx (y := (⟨"com/example/slicewright/slicewright/runtime/Utf8", "inRange", "(BII)Z"⟩ : MethodName)) hown (mvT hZ (hw _ (List.mem_of_getElem? (i := 19) rfl))) (mvT hZ (hw _ (List.mem_of_getElem? (i := 20) rfl))) (mvT hZ (hw _ (List.mem_of_getElem? (i := 4) rfl))) (mvT hZ (hw _ (List.mem_of_getElem? (i := 21) rfl))) (by decide) (backOf (W := 0) (rm2 l Z a0 hw [] (bs.getD (p2.toNatClampNeg + 3) 0) 128 191 h0 n0 Z0) hZ (hw _ (List.mem_of_getElem? (i := 21) rfl)) (hw _ (List.mem_of_getElem? (i := 4) rfl)) (by decide) (by decide)) (g := (mkF m 151 #[.val (.ref a1), .val (.int p2), .val (.int (4 : Int32)), .val (.int (own_c bs p2 0)), .val (.int lo), .val (.int hi), .val (.int (own_ir (own_c bs p2 2) 128 191)), .val (.int (3 : Int32))] [(.int (191 : Int32)), (.int (128 : Int32)), (.int (bs.getD (p2.toNatClampNeg + 3) 0))])) rfl (by rw [hml]; rfl) (argsL := [(.int (bs.getD (p2.toNatClampNeg + 3) 0)), (.int (128 : Int32)), (.int (191 : Int32))]) (rest := []) (lenOf own_pd1 rfl) rfl (by show 2 * 0 + _ ≤ _; exact Nat.le_of_eq rfl) (hb hby d3_151) (fun _ _ => ⟨rfl, e102, (by decide : 0 + 0 ≤ _), (by decide : 0 + 0 ≤ _)⟩)
        dsimp only [Pt.U, Pt.locs, Pt.cells, Pt.slots] at X103 l103 y103 z103 st103 hQ103
        subst l103 y103 z103
        obtain ⟨rfl, Nc, ec⟩ := hQ103
        refine Rch.go st103 ?_
        show Rch p ev below _ T103 (mkF m 154 #[.val (.ref a1), .val (.int p2), .val (.int (4 : Int32)), .val (.int (own_c bs p2 0)), .val (.int lo), .val (.int hi), .val (.int (own_ir (own_c bs p2 2) 128 191)), .val (.int (3 : Int32))] [(.int (own_ir (own_c bs p2 3) 128 191))])
        have N103 := Fr.app N102 Nc
        have e103 := ec
        refine Rch.go (fun _ q => XS.istore X103.here hx rfl (hb hby d3_154) rfl (l' := #[.val (.ref a1), .val (.int p2), .val (.int (4 : Int32)), .val (.int (own_c bs p2 0)), .val (.int lo), .val (.int hi), .val (.int (own_ir (own_c bs p2 3) 128 191)), .val (.int (3 : Int32))]) rfl q) ?_
        show Rch p ev below _ T103 (mkF m 156 #[.val (.ref a1), .val (.int p2), .val (.int (4 : Int32)), .val (.int (own_c bs p2 0)), .val (.int lo), .val (.int hi), .val (.int (own_ir (own_c bs p2 3) 128 191)), .val (.int (3 : Int32))] [])
        refine Rch.go (fun _ q => XS.iinc X103.here hx rfl (hb hby d3_156) rfl (l' := #[.val (.ref a1), .val (.int p2), .val (.int (4 : Int32)), .val (.int (own_c bs p2 0)), .val (.int lo), .val (.int hi), .val (.int (own_ir (own_c bs p2 3) 128 191)), .val (.int (4 : Int32))]) rfl q) ?_
        show Rch p ev below _ T103 (mkF m 159 #[.val (.ref a1), .val (.int p2), .val (.int (4 : Int32)), .val (.int (own_c bs p2 0)), .val (.int lo), .val (.int hi), .val (.int (own_ir (own_c bs p2 3) 128 191)), .val (.int (4 : Int32))] [])
        refine Rch.go (fun _ q => XS.goto X103.here hx rfl (pc0 := 159) (pc' := 128) rfl (hb hby d3_159) (by decide) (by decide) q) ?_
        show Rch p ev below _ T103 (mkF m 128 #[.val (.ref a1), .val (.int p2), .val (.int (4 : Int32)), .val (.int (own_c bs p2 0)), .val (.int lo), .val (.int hi), .val (.int (own_ir (own_c bs p2 3) 128 191)), .val (.int (4 : Int32))] [])
        refine Rch.go (fun _ q => XS.iload X103.here hx rfl (hb hby d3_128) rfl  q) ?_
        show Rch p ev below _ T103 (mkF m 130 #[.val (.ref a1), .val (.int p2), .val (.int (4 : Int32)), .val (.int (own_c bs p2 0)), .val (.int lo), .val (.int hi), .val (.int (own_ir (own_c bs p2 3) 128 191)), .val (.int (4 : Int32))] [(.int (4 : Int32))])
        refine Rch.go (fun _ q => XS.iloadN X103.here hx rfl (hb hby d3_130) rfl  q) ?_
        show Rch p ev below _ T103 (mkF m 131 #[.val (.ref a1), .val (.int p2), .val (.int (4 : Int32)), .val (.int (own_c bs p2 0)), .val (.int lo), .val (.int hi), .val (.int (own_ir (own_c bs p2 3) 128 191)), .val (.int (4 : Int32))] [(.int (4 : Int32)), (.int (4 : Int32))])
        refine Rch.go (fun _ q => XS.icmpYes X103.here hx rfl (pc0 := 131) (pc' := 162) rfl (hb hby d3_131) rfl (flt (by decide)).2.1 (by decide) (by decide) q) ?_
        show Rch p ev below _ T103 (mkF m 162 #[.val (.ref a1), .val (.int p2), .val (.int (4 : Int32)), .val (.int (own_c bs p2 0)), .val (.int lo), .val (.int hi), .val (.int (own_ir (own_c bs p2 3) 128 191)), .val (.int (4 : Int32))] [])
        refine Rch.go (fun _ q => XS.iload X103.here hx rfl (hb hby d3_162) rfl  q) ?_
        show Rch p ev below _ T103 (mkF m 164 #[.val (.ref a1), .val (.int p2), .val (.int (4 : Int32)), .val (.int (own_c bs p2 0)), .val (.int lo), .val (.int hi), .val (.int (own_ir (own_c bs p2 3) 128 191)), .val (.int (4 : Int32))] [(.int (own_ir (own_c bs p2 3) 128 191))])
        refine Rch.retZ X103 hx hlk Bd.returns (hb hby d3_164) (by decide) (by decide) ?_
        unfold Qrm3_4
        exact ⟨by simp only [own_cn1, own_cn2, own_cn3, own_cn4, hlo, hhi, own_ir_n, hc115, hc136,  if_true, if_false]; first | done | rfl, N103, e103⟩
  refine Rch.go (fun _ q => XS.aloadN X0.here hx rfl (hb hby d3_0) rfl rfl q) ?_
  show Rch p ev below _ s₁ (mkF m 1 #[.val (.ref a1), .val (.int p2), .val (.int (4 : Int32)), .unset, .unset, .unset, .unset, .unset] [(.ref a1)])
  refine Rch.go (fun _ q => XS.iloadN X0.here hx rfl (hb hby d3_1) rfl  q) ?_
  show Rch p ev below _ s₁ (mkF m 2 #[.val (.ref a1), .val (.int p2), .val (.int (4 : Int32)), .unset, .unset, .unset, .unset, .unset] [(.int p2), (.ref a1)])
  refine Rch.go (fun _ q => ldB X0 hx hZ e0 V1 (j := p2) (v := (.int (bs.getD (p2.toNatClampNeg + 0) 0))) (own_j0 p2 hi0 (by omega)) (own_rd bs _) (g := (mkF m 2 #[.val (.ref a1), .val (.int p2), .val (.int (4 : Int32)), .unset, .unset, .unset, .unset, .unset] [(.int p2), (.ref a1)])) rfl rfl (hb hby d3_2) _ q) ?_
  show Rch p ev below _ s₁ (mkF m 3 #[.val (.ref a1), .val (.int p2), .val (.int (4 : Int32)), .unset, .unset, .unset, .unset, .unset] [(.int (bs.getD (p2.toNatClampNeg + 0) 0))])
  refine Rch.go (fun _ q => XS.sipush X0.here hx rfl (hb hby d3_3) q) ?_
  show Rch p ev below _ s₁ (mkF m 6 #[.val (.ref a1), .val (.int p2), .val (.int (4 : Int32)), .unset, .unset, .unset, .unset, .unset] [(.int (255 : Int32)), (.int (bs.getD (p2.toNatClampNeg + 0) 0))])
  refine Rch.go (fun _ q => XS.iand X0.here hx rfl (hb hby d3_6) rfl q) ?_
  show Rch p ev below _ s₁ (mkF m 7 #[.val (.ref a1), .val (.int p2), .val (.int (4 : Int32)), .unset, .unset, .unset, .unset, .unset] [(.int ((bs.getD (p2.toNatClampNeg + 0) 0) &&& (255 : Int32)))])
  refine Rch.go (fun _ q => XS.istoreN X0.here hx rfl (hb hby d3_7) rfl (l' := #[.val (.ref a1), .val (.int p2), .val (.int (4 : Int32)), .val (.int ((bs.getD (p2.toNatClampNeg + 0) 0) &&& (255 : Int32))), .unset, .unset, .unset, .unset]) rfl q) ?_
  show Rch p ev below _ s₁ (mkF m 8 #[.val (.ref a1), .val (.int p2), .val (.int (4 : Int32)), .val (.int ((bs.getD (p2.toNatClampNeg + 0) 0) &&& (255 : Int32))), .unset, .unset, .unset, .unset] [])
  show Rch p ev below _ s₁ (mkF m 8 #[.val (.ref a1), .val (.int p2), .val (.int (4 : Int32)), .val (.int (own_c bs p2 0)), .unset, .unset, .unset, .unset] [])
  refine Rch.go (fun _ q => XS.iloadN X0.here hx rfl (hb hby d3_8) rfl  q) ?_
  show Rch p ev below _ s₁ (mkF m 9 #[.val (.ref a1), .val (.int p2), .val (.int (4 : Int32)), .val (.int (own_c bs p2 0)), .unset, .unset, .unset, .unset] [(.int (own_c bs p2 0))])
  refine Rch.go (fun _ q => XS.sipush X0.here hx rfl (hb hby d3_9) q) ?_
  show Rch p ev below _ s₁ (mkF m 12 #[.val (.ref a1), .val (.int p2), .val (.int (4 : Int32)), .val (.int (own_c bs p2 0)), .unset, .unset, .unset, .unset] [(.int (224 : Int32)), (.int (own_c bs p2 0))])
  by_cases hc12 : (own_c bs p2 0) = (224 : Int32)
  · skip
    refine Rch.go (fun _ q => XS.icmpNo X0.here hx rfl (hb hby d3_12) rfl (teq hc12).2 q) ?_
    show Rch p ev below _ s₁ (mkF m 15 #[.val (.ref a1), .val (.int p2), .val (.int (4 : Int32)), .val (.int (own_c bs p2 0)), .unset, .unset, .unset, .unset] [])
    refine Rch.go (fun _ q => XS.sipush X0.here hx rfl (hb hby d3_15) q) ?_
    show Rch p ev below _ s₁ (mkF m 18 #[.val (.ref a1), .val (.int p2), .val (.int (4 : Int32)), .val (.int (own_c bs p2 0)), .unset, .unset, .unset, .unset] [(.int (160 : Int32))])
    refine Rch.go (fun _ q => XS.istore X0.here hx rfl (hb hby d3_18) rfl (l' := #[.val (.ref a1), .val (.int p2), .val (.int (4 : Int32)), .val (.int (own_c bs p2 0)), .val (.int (160 : Int32)), .unset, .unset, .unset]) rfl q) ?_
    show Rch p ev below _ s₁ (mkF m 20 #[.val (.ref a1), .val (.int p2), .val (.int (4 : Int32)), .val (.int (own_c bs p2 0)), .val (.int (160 : Int32)), .unset, .unset, .unset] [])
    refine Rch.go (fun _ q => XS.sipush X0.here hx rfl (hb hby d3_20) q) ?_
    show Rch p ev below _ s₁ (mkF m 23 #[.val (.ref a1), .val (.int p2), .val (.int (4 : Int32)), .val (.int (own_c bs p2 0)), .val (.int (160 : Int32)), .unset, .unset, .unset] [(.int (191 : Int32))])
    refine Rch.go (fun _ q => XS.istore X0.here hx rfl (hb hby d3_23) rfl (l' := #[.val (.ref a1), .val (.int p2), .val (.int (4 : Int32)), .val (.int (own_c bs p2 0)), .val (.int (160 : Int32)), .val (.int (191 : Int32)), .unset, .unset]) rfl q) ?_
    show Rch p ev below _ s₁ (mkF m 25 #[.val (.ref a1), .val (.int p2), .val (.int (4 : Int32)), .val (.int (own_c bs p2 0)), .val (.int (160 : Int32)), .val (.int (191 : Int32)), .unset, .unset] [])
    refine Rch.go (fun _ q => XS.goto X0.here hx rfl (pc0 := 25) (pc' := 98) rfl (hb hby d3_25) (by decide) (by decide) q) ?_
    show Rch p ev below _ s₁ (mkF m 98 #[.val (.ref a1), .val (.int p2), .val (.int (4 : Int32)), .val (.int (own_c bs p2 0)), .val (.int (160 : Int32)), .val (.int (191 : Int32)), .unset, .unset] [])
    exact tail _ _ (by simp only [own_lo, hc12, if_true, if_false]; first | done | rfl | decide) (by simp only [own_hi, hc12, if_true, if_false]; first | done | rfl | decide)
  · skip
    refine Rch.go (fun _ q => XS.icmpYes X0.here hx rfl (pc0 := 12) (pc' := 28) rfl (hb hby d3_12) rfl (feq hc12).2 (by decide) (by decide) q) ?_
    show Rch p ev below _ s₁ (mkF m 28 #[.val (.ref a1), .val (.int p2), .val (.int (4 : Int32)), .val (.int (own_c bs p2 0)), .unset, .unset, .unset, .unset] [])
    refine Rch.go (fun _ q => XS.iloadN X0.here hx rfl (hb hby d3_28) rfl  q) ?_
    show Rch p ev below _ s₁ (mkF m 29 #[.val (.ref a1), .val (.int p2), .val (.int (4 : Int32)), .val (.int (own_c bs p2 0)), .unset, .unset, .unset, .unset] [(.int (own_c bs p2 0))])
    refine Rch.go (fun _ q => XS.sipush X0.here hx rfl (hb hby d3_29) q) ?_
    show Rch p ev below _ s₁ (mkF m 32 #[.val (.ref a1), .val (.int p2), .val (.int (4 : Int32)), .val (.int (own_c bs p2 0)), .unset, .unset, .unset, .unset] [(.int (237 : Int32)), (.int (own_c bs p2 0))])
    by_cases hc32 : (own_c bs p2 0) = (237 : Int32)
    · skip
      refine Rch.go (fun _ q => XS.icmpNo X0.here hx rfl (hb hby d3_32) rfl (teq hc32).2 q) ?_
      show Rch p ev below _ s₁ (mkF m 35 #[.val (.ref a1), .val (.int p2), .val (.int (4 : Int32)), .val (.int (own_c bs p2 0)), .unset, .unset, .unset, .unset] [])
      refine Rch.go (fun _ q => XS.sipush X0.here hx rfl (hb hby d3_35) q) ?_
      show Rch p ev below _ s₁ (mkF m 38 #[.val (.ref a1), .val (.int p2), .val (.int (4 : Int32)), .val (.int (own_c bs p2 0)), .unset, .unset, .unset, .unset] [(.int (128 : Int32))])
      refine Rch.go (fun _ q => XS.istore X0.here hx rfl (hb hby d3_38) rfl (l' := #[.val (.ref a1), .val (.int p2), .val (.int (4 : Int32)), .val (.int (own_c bs p2 0)), .val (.int (128 : Int32)), .unset, .unset, .unset]) rfl q) ?_
      show Rch p ev below _ s₁ (mkF m 40 #[.val (.ref a1), .val (.int p2), .val (.int (4 : Int32)), .val (.int (own_c bs p2 0)), .val (.int (128 : Int32)), .unset, .unset, .unset] [])
      refine Rch.go (fun _ q => XS.sipush X0.here hx rfl (hb hby d3_40) q) ?_
      show Rch p ev below _ s₁ (mkF m 43 #[.val (.ref a1), .val (.int p2), .val (.int (4 : Int32)), .val (.int (own_c bs p2 0)), .val (.int (128 : Int32)), .unset, .unset, .unset] [(.int (159 : Int32))])
      refine Rch.go (fun _ q => XS.istore X0.here hx rfl (hb hby d3_43) rfl (l' := #[.val (.ref a1), .val (.int p2), .val (.int (4 : Int32)), .val (.int (own_c bs p2 0)), .val (.int (128 : Int32)), .val (.int (159 : Int32)), .unset, .unset]) rfl q) ?_
      show Rch p ev below _ s₁ (mkF m 45 #[.val (.ref a1), .val (.int p2), .val (.int (4 : Int32)), .val (.int (own_c bs p2 0)), .val (.int (128 : Int32)), .val (.int (159 : Int32)), .unset, .unset] [])
      refine Rch.go (fun _ q => XS.goto X0.here hx rfl (pc0 := 45) (pc' := 98) rfl (hb hby d3_45) (by decide) (by decide) q) ?_
      show Rch p ev below _ s₁ (mkF m 98 #[.val (.ref a1), .val (.int p2), .val (.int (4 : Int32)), .val (.int (own_c bs p2 0)), .val (.int (128 : Int32)), .val (.int (159 : Int32)), .unset, .unset] [])
      exact tail _ _ (by simp only [own_lo, hc12, hc32, if_true, if_false]; first | done | rfl | decide) (by simp only [own_hi, hc12, hc32, if_true, if_false]; first | done | rfl | decide)
    · skip
      refine Rch.go (fun _ q => XS.icmpYes X0.here hx rfl (pc0 := 32) (pc' := 48) rfl (hb hby d3_32) rfl (feq hc32).2 (by decide) (by decide) q) ?_
      show Rch p ev below _ s₁ (mkF m 48 #[.val (.ref a1), .val (.int p2), .val (.int (4 : Int32)), .val (.int (own_c bs p2 0)), .unset, .unset, .unset, .unset] [])
      refine Rch.go (fun _ q => XS.iloadN X0.here hx rfl (hb hby d3_48) rfl  q) ?_
      show Rch p ev below _ s₁ (mkF m 49 #[.val (.ref a1), .val (.int p2), .val (.int (4 : Int32)), .val (.int (own_c bs p2 0)), .unset, .unset, .unset, .unset] [(.int (own_c bs p2 0))])
      refine Rch.go (fun _ q => XS.sipush X0.here hx rfl (hb hby d3_49) q) ?_
      show Rch p ev below _ s₁ (mkF m 52 #[.val (.ref a1), .val (.int p2), .val (.int (4 : Int32)), .val (.int (own_c bs p2 0)), .unset, .unset, .unset, .unset] [(.int (240 : Int32)), (.int (own_c bs p2 0))])
      by_cases hc52 : (own_c bs p2 0) = (240 : Int32)
      · skip
        refine Rch.go (fun _ q => XS.icmpNo X0.here hx rfl (hb hby d3_52) rfl (teq hc52).2 q) ?_
        show Rch p ev below _ s₁ (mkF m 55 #[.val (.ref a1), .val (.int p2), .val (.int (4 : Int32)), .val (.int (own_c bs p2 0)), .unset, .unset, .unset, .unset] [])
        refine Rch.go (fun _ q => XS.sipush X0.here hx rfl (hb hby d3_55) q) ?_
        show Rch p ev below _ s₁ (mkF m 58 #[.val (.ref a1), .val (.int p2), .val (.int (4 : Int32)), .val (.int (own_c bs p2 0)), .unset, .unset, .unset, .unset] [(.int (144 : Int32))])
        refine Rch.go (fun _ q => XS.istore X0.here hx rfl (hb hby d3_58) rfl (l' := #[.val (.ref a1), .val (.int p2), .val (.int (4 : Int32)), .val (.int (own_c bs p2 0)), .val (.int (144 : Int32)), .unset, .unset, .unset]) rfl q) ?_
        show Rch p ev below _ s₁ (mkF m 60 #[.val (.ref a1), .val (.int p2), .val (.int (4 : Int32)), .val (.int (own_c bs p2 0)), .val (.int (144 : Int32)), .unset, .unset, .unset] [])
        refine Rch.go (fun _ q => XS.sipush X0.here hx rfl (hb hby d3_60) q) ?_
        show Rch p ev below _ s₁ (mkF m 63 #[.val (.ref a1), .val (.int p2), .val (.int (4 : Int32)), .val (.int (own_c bs p2 0)), .val (.int (144 : Int32)), .unset, .unset, .unset] [(.int (191 : Int32))])
        refine Rch.go (fun _ q => XS.istore X0.here hx rfl (hb hby d3_63) rfl (l' := #[.val (.ref a1), .val (.int p2), .val (.int (4 : Int32)), .val (.int (own_c bs p2 0)), .val (.int (144 : Int32)), .val (.int (191 : Int32)), .unset, .unset]) rfl q) ?_
        show Rch p ev below _ s₁ (mkF m 65 #[.val (.ref a1), .val (.int p2), .val (.int (4 : Int32)), .val (.int (own_c bs p2 0)), .val (.int (144 : Int32)), .val (.int (191 : Int32)), .unset, .unset] [])
        refine Rch.go (fun _ q => XS.goto X0.here hx rfl (pc0 := 65) (pc' := 98) rfl (hb hby d3_65) (by decide) (by decide) q) ?_
        show Rch p ev below _ s₁ (mkF m 98 #[.val (.ref a1), .val (.int p2), .val (.int (4 : Int32)), .val (.int (own_c bs p2 0)), .val (.int (144 : Int32)), .val (.int (191 : Int32)), .unset, .unset] [])
        exact tail _ _ (by simp only [own_lo, hc12, hc32, hc52, if_true, if_false]; first | done | rfl | decide) (by simp only [own_hi, hc12, hc32, hc52, if_true, if_false]; first | done | rfl | decide)
      · skip
        refine Rch.go (fun _ q => XS.icmpYes X0.here hx rfl (pc0 := 52) (pc' := 68) rfl (hb hby d3_52) rfl (feq hc52).2 (by decide) (by decide) q) ?_
        show Rch p ev below _ s₁ (mkF m 68 #[.val (.ref a1), .val (.int p2), .val (.int (4 : Int32)), .val (.int (own_c bs p2 0)), .unset, .unset, .unset, .unset] [])
        refine Rch.go (fun _ q => XS.iloadN X0.here hx rfl (hb hby d3_68) rfl  q) ?_
        show Rch p ev below _ s₁ (mkF m 69 #[.val (.ref a1), .val (.int p2), .val (.int (4 : Int32)), .val (.int (own_c bs p2 0)), .unset, .unset, .unset, .unset] [(.int (own_c bs p2 0))])
        refine Rch.go (fun _ q => XS.sipush X0.here hx rfl (hb hby d3_69) q) ?_
        show Rch p ev below _ s₁ (mkF m 72 #[.val (.ref a1), .val (.int p2), .val (.int (4 : Int32)), .val (.int (own_c bs p2 0)), .unset, .unset, .unset, .unset] [(.int (244 : Int32)), (.int (own_c bs p2 0))])
        by_cases hc72 : (own_c bs p2 0) = (244 : Int32)
        · skip
          refine Rch.go (fun _ q => XS.icmpNo X0.here hx rfl (hb hby d3_72) rfl (teq hc72).2 q) ?_
          show Rch p ev below _ s₁ (mkF m 75 #[.val (.ref a1), .val (.int p2), .val (.int (4 : Int32)), .val (.int (own_c bs p2 0)), .unset, .unset, .unset, .unset] [])
          refine Rch.go (fun _ q => XS.sipush X0.here hx rfl (hb hby d3_75) q) ?_
          show Rch p ev below _ s₁ (mkF m 78 #[.val (.ref a1), .val (.int p2), .val (.int (4 : Int32)), .val (.int (own_c bs p2 0)), .unset, .unset, .unset, .unset] [(.int (128 : Int32))])
          refine Rch.go (fun _ q => XS.istore X0.here hx rfl (hb hby d3_78) rfl (l' := #[.val (.ref a1), .val (.int p2), .val (.int (4 : Int32)), .val (.int (own_c bs p2 0)), .val (.int (128 : Int32)), .unset, .unset, .unset]) rfl q) ?_
          show Rch p ev below _ s₁ (mkF m 80 #[.val (.ref a1), .val (.int p2), .val (.int (4 : Int32)), .val (.int (own_c bs p2 0)), .val (.int (128 : Int32)), .unset, .unset, .unset] [])
          refine Rch.go (fun _ q => XS.sipush X0.here hx rfl (hb hby d3_80) q) ?_
          show Rch p ev below _ s₁ (mkF m 83 #[.val (.ref a1), .val (.int p2), .val (.int (4 : Int32)), .val (.int (own_c bs p2 0)), .val (.int (128 : Int32)), .unset, .unset, .unset] [(.int (143 : Int32))])
          refine Rch.go (fun _ q => XS.istore X0.here hx rfl (hb hby d3_83) rfl (l' := #[.val (.ref a1), .val (.int p2), .val (.int (4 : Int32)), .val (.int (own_c bs p2 0)), .val (.int (128 : Int32)), .val (.int (143 : Int32)), .unset, .unset]) rfl q) ?_
          show Rch p ev below _ s₁ (mkF m 85 #[.val (.ref a1), .val (.int p2), .val (.int (4 : Int32)), .val (.int (own_c bs p2 0)), .val (.int (128 : Int32)), .val (.int (143 : Int32)), .unset, .unset] [])
          refine Rch.go (fun _ q => XS.goto X0.here hx rfl (pc0 := 85) (pc' := 98) rfl (hb hby d3_85) (by decide) (by decide) q) ?_
          show Rch p ev below _ s₁ (mkF m 98 #[.val (.ref a1), .val (.int p2), .val (.int (4 : Int32)), .val (.int (own_c bs p2 0)), .val (.int (128 : Int32)), .val (.int (143 : Int32)), .unset, .unset] [])
          exact tail _ _ (by simp only [own_lo, hc12, hc32, hc52, hc72, if_true, if_false]; first | done | rfl | decide) (by simp only [own_hi, hc12, hc32, hc52, hc72, if_true, if_false]; first | done | rfl | decide)
        · skip
          refine Rch.go (fun _ q => XS.icmpYes X0.here hx rfl (pc0 := 72) (pc' := 88) rfl (hb hby d3_72) rfl (feq hc72).2 (by decide) (by decide) q) ?_
          show Rch p ev below _ s₁ (mkF m 88 #[.val (.ref a1), .val (.int p2), .val (.int (4 : Int32)), .val (.int (own_c bs p2 0)), .unset, .unset, .unset, .unset] [])
          refine Rch.go (fun _ q => XS.sipush X0.here hx rfl (hb hby d3_88) q) ?_
          show Rch p ev below _ s₁ (mkF m 91 #[.val (.ref a1), .val (.int p2), .val (.int (4 : Int32)), .val (.int (own_c bs p2 0)), .unset, .unset, .unset, .unset] [(.int (128 : Int32))])
          refine Rch.go (fun _ q => XS.istore X0.here hx rfl (hb hby d3_91) rfl (l' := #[.val (.ref a1), .val (.int p2), .val (.int (4 : Int32)), .val (.int (own_c bs p2 0)), .val (.int (128 : Int32)), .unset, .unset, .unset]) rfl q) ?_
          show Rch p ev below _ s₁ (mkF m 93 #[.val (.ref a1), .val (.int p2), .val (.int (4 : Int32)), .val (.int (own_c bs p2 0)), .val (.int (128 : Int32)), .unset, .unset, .unset] [])
          refine Rch.go (fun _ q => XS.sipush X0.here hx rfl (hb hby d3_93) q) ?_
          show Rch p ev below _ s₁ (mkF m 96 #[.val (.ref a1), .val (.int p2), .val (.int (4 : Int32)), .val (.int (own_c bs p2 0)), .val (.int (128 : Int32)), .unset, .unset, .unset] [(.int (191 : Int32))])
          refine Rch.go (fun _ q => XS.istore X0.here hx rfl (hb hby d3_96) rfl (l' := #[.val (.ref a1), .val (.int p2), .val (.int (4 : Int32)), .val (.int (own_c bs p2 0)), .val (.int (128 : Int32)), .val (.int (191 : Int32)), .unset, .unset]) rfl q) ?_
          show Rch p ev below _ s₁ (mkF m 98 #[.val (.ref a1), .val (.int p2), .val (.int (4 : Int32)), .val (.int (own_c bs p2 0)), .val (.int (128 : Int32)), .val (.int (191 : Int32)), .unset, .unset] [])
          exact tail _ _ (by simp only [own_lo, hc12, hc32, hc52, hc72, if_true, if_false]; first | done | rfl | decide) (by simp only [own_hi, hc12, hc32, hc52, hc72, if_true, if_false]; first | done | rfl | decide)
theorem own_pn3 : plainFor (⟨"com/example/slicewright/slicewright/runtime/Utf8", "wellFormedUpTo", "([BII)I"⟩ : MethodName) = true := by first | exact plainFor_of_name (by first | (simp [plainName, overriddenIn]; done) | decide +kernel) | decide +kernel
theorem own_pd3 : parseMethodDescriptor "([BII)I" = some ⟨[(.array .byte), .int, .int], some .int⟩ := by decide +kernel
theorem d4_0 : decode prog_97_method_4_code 0 = .ok (.iload_n 1, 1) := by decide +kernel
theorem d4_1 : decode prog_97_method_4_code 1 = .ok (.istore_n 3, 1) := by decide +kernel
theorem d4_2 : decode prog_97_method_4_code 2 = .ok (.iload_n 3, 1) := by decide +kernel
theorem d4_3 : decode prog_97_method_4_code 3 = .ok (.iload_n 2, 1) := by decide +kernel
theorem d4_4 : decode prog_97_method_4_code 4 = .ok (.if_icmp .ge 52, 3) := by decide +kernel
theorem d4_7 : decode prog_97_method_4_code 7 = .ok (.aload_n 0, 1) := by decide +kernel
theorem d4_8 : decode prog_97_method_4_code 8 = .ok (.iload_n 3, 1) := by decide +kernel
theorem d4_9 : decode prog_97_method_4_code 9 = .ok (.baload, 1) := by decide +kernel
theorem d4_10 : decode prog_97_method_4_code 10 = .ok (.sipush 255, 3) := by decide +kernel
theorem d4_13 : decode prog_97_method_4_code 13 = .ok (.iand, 1) := by decide +kernel
theorem d4_14 : decode prog_97_method_4_code 14 = .ok (.istore 4, 2) := by decide +kernel
theorem d4_16 : decode prog_97_method_4_code 16 = .ok (.iload 4, 2) := by decide +kernel
theorem d4_18 : decode prog_97_method_4_code 18 = .ok (.invokestatic 42, 3) := by decide +kernel
theorem d4_21 : decode prog_97_method_4_code 21 = .ok (.istore 5, 2) := by decide +kernel
theorem d4_23 : decode prog_97_method_4_code 23 = .ok (.iload 5, 2) := by decide +kernel
theorem d4_25 : decode prog_97_method_4_code 25 = .ok (.ifCond .eq 21, 3) := by decide +kernel
theorem d4_28 : decode prog_97_method_4_code 28 = .ok (.iload 5, 2) := by decide +kernel
theorem d4_30 : decode prog_97_method_4_code 30 = .ok (.iload_n 2, 1) := by decide +kernel
theorem d4_31 : decode prog_97_method_4_code 31 = .ok (.iload_n 3, 1) := by decide +kernel
theorem d4_32 : decode prog_97_method_4_code 32 = .ok (.isub, 1) := by decide +kernel
theorem d4_33 : decode prog_97_method_4_code 33 = .ok (.if_icmp .gt 13, 3) := by decide +kernel
theorem d4_36 : decode prog_97_method_4_code 36 = .ok (.aload_n 0, 1) := by decide +kernel
theorem d4_37 : decode prog_97_method_4_code 37 = .ok (.iload_n 3, 1) := by decide +kernel
theorem d4_38 : decode prog_97_method_4_code 38 = .ok (.iload 5, 2) := by decide +kernel
theorem d4_40 : decode prog_97_method_4_code 40 = .ok (.invokestatic 48, 3) := by decide +kernel
theorem d4_43 : decode prog_97_method_4_code 43 = .ok (.ifCond .ne 5, 3) := by decide +kernel
theorem d4_46 : decode prog_97_method_4_code 46 = .ok (.iload_n 3, 1) := by decide +kernel
theorem d4_47 : decode prog_97_method_4_code 47 = .ok (.ireturn, 1) := by decide +kernel
theorem d4_48 : decode prog_97_method_4_code 48 = .ok (.iload_n 3, 1) := by decide +kernel
theorem d4_49 : decode prog_97_method_4_code 49 = .ok (.iload 5, 2) := by decide +kernel
theorem d4_51 : decode prog_97_method_4_code 51 = .ok (.iadd, 1) := by decide +kernel
theorem d4_52 : decode prog_97_method_4_code 52 = .ok (.istore_n 3, 1) := by decide +kernel
theorem d4_53 : decode prog_97_method_4_code 53 = .ok (.goto (-51), 3) := by decide +kernel
theorem d4_56 : decode prog_97_method_4_code 56 = .ok (.iload_n 2, 1) := by decide +kernel
theorem d4_57 : decode prog_97_method_4_code 57 = .ok (.ireturn, 1) := by decide +kernel
theorem own_ef7 (m : MethodId) (x0 : Addr) (x1 : Int32) (x2 : Int32) : entryFrame m #[(.ref x0), (.int x1), (.int x2)] 6 = mkF m 0 #[.val (.ref x0), .val (.int x1), .val (.int x2), .unset, .unset, .unset] [] := by first | (simp [entryFrame, mkF, argsToLocals, Value.category, maxLocals]; done) | rfl
def Qrm4 (Z : State) (a1 : Addr) (p2 : Int32) (p3 : Int32) (k1 : ClassId) (bs : List Int32) (h0 : Heap) (n0 : Nat) : Option Value → Heap → List Loc → Prop := fun v h L => v = some (.int (own_wf (fun q => own_st (own_c bs q 0) (own_c bs q 1) (own_c bs q 2) (own_c bs q 3) (p3 - q)) p3 6 p2)) ∧ Fr n0 L ∧ h = h0
set_option maxRecDepth 65536 in
set_option maxHeartbeats 40000000 in
theorem rm4 (l : Launch) (Z : State) (a0 : Array Value) (hw : ∀ d ∈ tables_1, d.before a0 Z = true) (ws : List Jvm.Cond) (a1 : Addr) (p2 : Int32) (p3 : Int32) (k1 : ClassId) (bs : List Int32) (h0 : Heap) (n0 : Nat) (Z0 : n0 ≤ h0.size) (V1 : Arv Z h0 a1 k1 .byte (6 : Int32) (bs.map Value.int) (.int 0)) (hf0 : 0 ≤ p2.toInt) (hft : p2.toInt ≤ p3.toInt) (ht6 : p3.toInt ≤ 6) :
    MetFree l (⟨"com/example/slicewright/slicewright/runtime/Utf8", "wellFormedUpTo", "([BII)I"⟩ : MethodName) (head1 (Jvm.Cond.code (⟨"com/example/slicewright/slicewright/runtime/Utf8", "wellFormedUpTo", "([BII)I"⟩ : MethodName) prog_97_method_4_code 6 (some .int) :: ws) ({ frames := 2, cells := 0, slots := 0, locals := 48 } : Room)) (fun a U => a = #[(.ref a1), (.int p2), (.int p3)] ∧ Z.Warmed39 U.vm ∧ U.heap = h0) (fun _ _ _ _ _ => True) (fun _ U o U' => ∃ v L, o = .returned v ∧ (Qrm4 Z a1 p2 p3 k1 bs h0 n0) v U'.heap L ∧ FrameEnd U o U' L ({ frames := 2, cells := 0, slots := 0, locals := 48 } : Room).cells ({ frames := 2, cells := 0, slots := 0, locals := 48 } : Room).slots) := by
  refine MetFree.of_bodySF own_pn3 hisR ?_
  intro p ev s m args below meth c s₁ Bd hml0 hP hK
  obtain ⟨rfl, hZ, hh⟩ := hP
  have hx := Bd.exec
  have hby := Bd.bytes
  have hlk := Bd.notSynchronized
  have hml : c.maxLocals = 6 := hml0
  have hown : s.vm.findClass "com/example/slicewright/slicewright/runtime/Utf8" = some m.cls := findClass_of_methodNamed Bd.named
  have hnm := (name_of_methodNamed Bd.named Bd.method).1
  have X0 : Stand p l ev ({ frames := 2, cells := 0, slots := 0, locals := 48 } : Room) s m #[(.ref a1), (.int p2), (.int p3)] below meth c s₁ [] 0 0 := Stand.of_body Bd
  have e0 : s₁.heap = h0 := by rw [← hh, Bd.state]; rfl
  have N0 := Fr.nil n0
  refine Rch.entry (G := (EndQ (Qrm4 Z a1 p2 p3 k1 bs h0 n0) s ({ frames := 2, cells := 0, slots := 0, locals := 48 } : Room).cells ({ frames := 2, cells := 0, slots := 0, locals := 48 } : Room).slots)) (own_ef7 m a1 p2 p3) ?_
  show Rch p ev below _ s₁ (mkF m 0 #[.val (.ref a1), .val (.int p2), .val (.int p3), .unset, .unset, .unset] [])
  have loop : ∀ (f : Nat) (T0 : State) (LL : List Loc) (ii : Int32) (s4 s5 : Slot), Stand p l ev ({ frames := 2, cells := 0, slots := 0, locals := 48 } : Room) s m #[(.ref a1), (.int p2), (.int p3)] below meth c T0 LL 0 0 → T0.heap = h0 → Fr n0 LL → One s4 → One s5 → 0 ≤ ii.toInt → ii.toInt ≤ p3.toInt → p3.toInt - ii.toInt ≤ f → own_wf (fun q => own_st (own_c bs q 0) (own_c bs q 1) (own_c bs q 2) (own_c bs q 3) (p3 - q)) p3 f ii = own_wf (fun q => own_st (own_c bs q 0) (own_c bs q 1) (own_c bs q 2) (own_c bs q 3) (p3 - q)) p3 6 p2 → Rch p ev below (EndQ (Qrm4 Z a1 p2 p3 k1 bs h0 n0) s ({ frames := 2, cells := 0, slots := 0, locals := 48 } : Room).cells ({ frames := 2, cells := 0, slots := 0, locals := 48 } : Room).slots) T0 (mkF m 2 #[.val (.ref a1), .val (.int p2), .val (.int p3), .val (.int ii), s4, s5] []) := by
    intro f
    induction f with
    | zero =>
      intro T0 LL ii s4 s5 Xl eT NN hs4 hs5 hi0 hit hle hv
      have hn : ¬ ii < p3 := by rw [Int32.lt_iff_toInt_lt]; omega
      rw [own_wf] at hv
      refine Rch.go (fun _ q => XS.iloadN Xl.here hx rfl (hb hby d4_2) rfl  q) ?_
      show Rch p ev below _ T0 (mkF m 3 #[.val (.ref a1), .val (.int p2), .val (.int p3), .val (.int ii), s4, s5] [(.int ii)])
      refine Rch.go (fun _ q => XS.iloadN Xl.here hx rfl (hb hby d4_3) rfl  q) ?_
      show Rch p ev below _ T0 (mkF m 4 #[.val (.ref a1), .val (.int p2), .val (.int p3), .val (.int ii), s4, s5] [(.int p3), (.int ii)])
      refine Rch.go (fun _ q => XS.icmpYes Xl.here hx rfl (pc0 := 4) (pc' := 56) rfl (hb hby d4_4) rfl (flt hn).2.1 (by decide) (by decide) q) ?_
      show Rch p ev below _ T0 (mkF m 56 #[.val (.ref a1), .val (.int p2), .val (.int p3), .val (.int ii), s4, s5] [])
      refine Rch.go (fun _ q => XS.iloadN Xl.here hx rfl (hb hby d4_56) rfl  q) ?_
      show Rch p ev below _ T0 (mkF m 57 #[.val (.ref a1), .val (.int p2), .val (.int p3), .val (.int ii), s4, s5] [(.int p3)])
      refine Rch.retI Xl hx hlk Bd.returns (hb hby d4_57) (by decide) (by decide) ?_
      unfold Qrm4
      exact ⟨congrArg (fun q => some (Value.int q)) hv, NN, eT⟩
    | succ f ih =>
      intro T0 LL ii s4 s5 Xl eT NN hs4 hs5 hi0 hit hle hv
      rw [own_wf] at hv
      refine Rch.go (fun _ q => XS.iloadN Xl.here hx rfl (hb hby d4_2) rfl  q) ?_
      show Rch p ev below _ T0 (mkF m 3 #[.val (.ref a1), .val (.int p2), .val (.int p3), .val (.int ii), s4, s5] [(.int ii)])
      refine Rch.go (fun _ q => XS.iloadN Xl.here hx rfl (hb hby d4_3) rfl  q) ?_
      show Rch p ev below _ T0 (mkF m 4 #[.val (.ref a1), .val (.int p2), .val (.int p3), .val (.int ii), s4, s5] [(.int p3), (.int ii)])
      have k0 : (0 : Int32).toInt = 0 := rfl
      by_cases hc4 : ii < p3
      · skip
        refine Rch.go (fun _ q => XS.icmpNo Xl.here hx rfl (hb hby d4_4) rfl (tlt hc4).2.1 q) ?_
        show Rch p ev below _ T0 (mkF m 7 #[.val (.ref a1), .val (.int p2), .val (.int p3), .val (.int ii), s4, s5] [])
        have hlt : ii.toInt < p3.toInt := Int32.lt_iff_toInt_lt.mp hc4
        refine Rch.go (fun _ q => XS.aloadN Xl.here hx rfl (hb hby d4_7) rfl rfl q) ?_
        show Rch p ev below _ T0 (mkF m 8 #[.val (.ref a1), .val (.int p2), .val (.int p3), .val (.int ii), s4, s5] [(.ref a1)])
        refine Rch.go (fun _ q => XS.iloadN Xl.here hx rfl (hb hby d4_8) rfl  q) ?_
        show Rch p ev below _ T0 (mkF m 9 #[.val (.ref a1), .val (.int p2), .val (.int p3), .val (.int ii), s4, s5] [(.int ii), (.ref a1)])
        refine Rch.go (fun _ q => ldB Xl hx hZ eT V1 (j := ii) (v := (.int (bs.getD (ii.toNatClampNeg + 0) 0))) (own_j0 ii hi0 (by omega)) (own_rd bs _) (g := (mkF m 9 #[.val (.ref a1), .val (.int p2), .val (.int p3), .val (.int ii), s4, s5] [(.int ii), (.ref a1)])) rfl rfl (hb hby d4_9) _ q) ?_
        show Rch p ev below _ T0 (mkF m 10 #[.val (.ref a1), .val (.int p2), .val (.int p3), .val (.int ii), s4, s5] [(.int (bs.getD (ii.toNatClampNeg + 0) 0))])
        refine Rch.go (fun _ q => XS.sipush Xl.here hx rfl (hb hby d4_10) q) ?_
        show Rch p ev below _ T0 (mkF m 13 #[.val (.ref a1), .val (.int p2), .val (.int p3), .val (.int ii), s4, s5] [(.int (255 : Int32)), (.int (bs.getD (ii.toNatClampNeg + 0) 0))])
        refine Rch.go (fun _ q => XS.iand Xl.here hx rfl (hb hby d4_13) rfl q) ?_
        show Rch p ev below _ T0 (mkF m 14 #[.val (.ref a1), .val (.int p2), .val (.int p3), .val (.int ii), s4, s5] [(.int ((bs.getD (ii.toNatClampNeg + 0) 0) &&& (255 : Int32)))])
        refine Rch.go (fun _ q => XS.istoreS Xl.here hx rfl (hb hby d4_14) rfl rfl hs4 q) ?_
        show Rch p ev below _ T0 (mkF m 16 #[.val (.ref a1), .val (.int p2), .val (.int p3), .val (.int ii), .val (.int ((bs.getD (ii.toNatClampNeg + 0) 0) &&& (255 : Int32))), s5] [])
        show Rch p ev below _ T0 (mkF m 16 #[.val (.ref a1), .val (.int p2), .val (.int p3), .val (.int ii), .val (.int (own_c bs ii 0)), s5] [])
        refine Rch.go (fun _ q => XS.iload Xl.here hx rfl (hb hby d4_16) rfl  q) ?_
        show Rch p ev below _ T0 (mkF m 18 #[.val (.ref a1), .val (.int p2), .val (.int p3), .val (.int ii), .val (.int (own_c bs ii 0)), s5] [(.int (own_c bs ii 0))])
        obtain ⟨_, _, ⟨T101, L101, k101, n101⟩, -, X101, ⟨Lc101, hQ101, l101, y101, z101⟩, st101⟩ := Jvm.LawKit.callS Xl hx (y := (⟨"com/example/slicewright/slicewright/runtime/Utf8", "sequenceLength", "(I)I"⟩ : MethodName)) hown (mvT hZ (hw _ (List.mem_of_getElem? (i := 6) rfl))) (mvT hZ (hw _ (List.mem_of_getElem? (i := 7) rfl))) (mvT hZ (hw _ (List.mem_of_getElem? (i := 4) rfl))) (mvT hZ (hw _ (List.mem_of_getElem? (i := 8) rfl))) (by decide) (backOf (W := 0) (rm1 l Z a0 hw [] (own_c bs ii 0) h0 n0 Z0) hZ (hw _ (List.mem_of_getElem? (i := 8) rfl)) (hw _ (List.mem_of_getElem? (i := 4) rfl)) (by decide) (by decide)) (g := (mkF m 18 #[.val (.ref a1), .val (.int p2), .val (.int p3), .val (.int ii), .val (.int (own_c bs ii 0)), s5] [(.int (own_c bs ii 0))])) rfl (by rw [hml]; rfl) (argsL := [(.int (own_c bs ii 0))]) (rest := []) (lenOf own_pd0 rfl) rfl (by show 2 * 0 + _ ≤ _; exact Nat.le_of_eq rfl) (hb hby d4_18) (fun _ _ => ⟨rfl, eT, (by decide : 0 + 0 ≤ _), (by decide : 0 + 0 ≤ _)⟩)
        dsimp only [Pt.U, Pt.locs, Pt.cells, Pt.slots] at X101 l101 y101 z101 st101 hQ101
        subst l101 y101 z101
        obtain ⟨rfl, Nc, ec⟩ := hQ101
        refine Rch.go st101 ?_
        show Rch p ev below _ T101 (mkF m 21 #[.val (.ref a1), .val (.int p2), .val (.int p3), .val (.int ii), .val (.int (own_c bs ii 0)), s5] [(.int (own_sl (own_c bs ii 0)))])
        have N101 := Fr.app NN Nc
        have e101 := ec
        rcases own_sl_z (own_c bs ii 0) with hsl | hsl | hsl | hsl | hsl
        · rw [hsl]
          show Rch p ev below _ T101 (mkF m 21 #[.val (.ref a1), .val (.int p2), .val (.int p3), .val (.int ii), .val (.int (own_c bs ii 0)), s5] [(.int (0 : Int32))])
          refine Rch.go (fun _ q => XS.istoreS X101.here hx rfl (hb hby d4_21) rfl rfl hs5 q) ?_
          show Rch p ev below _ T101 (mkF m 23 #[.val (.ref a1), .val (.int p2), .val (.int p3), .val (.int ii), .val (.int (own_c bs ii 0)), .val (.int (0 : Int32))] [])
          refine Rch.go (fun _ q => XS.iload X101.here hx rfl (hb hby d4_23) rfl  q) ?_
          show Rch p ev below _ T101 (mkF m 25 #[.val (.ref a1), .val (.int p2), .val (.int p3), .val (.int ii), .val (.int (own_c bs ii 0)), .val (.int (0 : Int32))] [(.int (0 : Int32))])
          refine Rch.go (fun _ q => XS.ifYes X101.here hx rfl (pc0 := 25) (pc' := 46) rfl (hb hby d4_25) rfl ((if0 _ _).trans (teq (by decide)).1) (by decide) (by decide) q) ?_
          show Rch p ev below _ T101 (mkF m 46 #[.val (.ref a1), .val (.int p2), .val (.int p3), .val (.int ii), .val (.int (own_c bs ii 0)), .val (.int (0 : Int32))] [])
          refine Rch.go (fun _ q => XS.iloadN X101.here hx rfl (hb hby d4_46) rfl  q) ?_
          show Rch p ev below _ T101 (mkF m 47 #[.val (.ref a1), .val (.int p2), .val (.int p3), .val (.int ii), .val (.int (own_c bs ii 0)), .val (.int (0 : Int32))] [(.int ii)])
          refine Rch.retI X101 hx hlk Bd.returns (hb hby d4_47) (by decide) (by decide) ?_
          unfold Qrm4
          exact ⟨by rw [← hv]; simp only [own_st, hsl, hc4, if_true, if_false]; first | done | rfl, N101, e101⟩
        · rw [hsl]
          show Rch p ev below _ T101 (mkF m 21 #[.val (.ref a1), .val (.int p2), .val (.int p3), .val (.int ii), .val (.int (own_c bs ii 0)), s5] [(.int (1 : Int32))])
          refine Rch.go (fun _ q => XS.istoreS X101.here hx rfl (hb hby d4_21) rfl rfl hs5 q) ?_
          show Rch p ev below _ T101 (mkF m 23 #[.val (.ref a1), .val (.int p2), .val (.int p3), .val (.int ii), .val (.int (own_c bs ii 0)), .val (.int (1 : Int32))] [])
          refine Rch.go (fun _ q => XS.iload X101.here hx rfl (hb hby d4_23) rfl  q) ?_
          show Rch p ev below _ T101 (mkF m 25 #[.val (.ref a1), .val (.int p2), .val (.int p3), .val (.int ii), .val (.int (own_c bs ii 0)), .val (.int (1 : Int32))] [(.int (1 : Int32))])
          refine Rch.go (fun _ q => XS.ifNo X101.here hx rfl (hb hby d4_25) rfl ((if0 _ _).trans (feq (by decide)).1) q) ?_
          show Rch p ev below _ T101 (mkF m 28 #[.val (.ref a1), .val (.int p2), .val (.int p3), .val (.int ii), .val (.int (own_c bs ii 0)), .val (.int (1 : Int32))] [])
          refine Rch.go (fun _ q => XS.iload X101.here hx rfl (hb hby d4_28) rfl  q) ?_
          show Rch p ev below _ T101 (mkF m 30 #[.val (.ref a1), .val (.int p2), .val (.int p3), .val (.int ii), .val (.int (own_c bs ii 0)), .val (.int (1 : Int32))] [(.int (1 : Int32))])
          refine Rch.go (fun _ q => XS.iloadN X101.here hx rfl (hb hby d4_30) rfl  q) ?_
          show Rch p ev below _ T101 (mkF m 31 #[.val (.ref a1), .val (.int p2), .val (.int p3), .val (.int ii), .val (.int (own_c bs ii 0)), .val (.int (1 : Int32))] [(.int p3), (.int (1 : Int32))])
          refine Rch.go (fun _ q => XS.iloadN X101.here hx rfl (hb hby d4_31) rfl  q) ?_
          show Rch p ev below _ T101 (mkF m 32 #[.val (.ref a1), .val (.int p2), .val (.int p3), .val (.int ii), .val (.int (own_c bs ii 0)), .val (.int (1 : Int32))] [(.int ii), (.int p3), (.int (1 : Int32))])
          refine Rch.go (fun _ q => XS.isub X101.here hx rfl (hb hby d4_32) rfl q) ?_
          show Rch p ev below _ T101 (mkF m 33 #[.val (.ref a1), .val (.int p2), .val (.int p3), .val (.int ii), .val (.int (own_c bs ii 0)), .val (.int (1 : Int32))] [(.int (p3 - ii)), (.int (1 : Int32))])
          by_cases hc33 : (p3 - ii) < (1 : Int32)
          · skip
            refine Rch.go (fun _ q => XS.icmpYes X101.here hx rfl (pc0 := 33) (pc' := 46) rfl (hb hby d4_33) rfl (tlt hc33).2.2.1 (by decide) (by decide) q) ?_
            show Rch p ev below _ T101 (mkF m 46 #[.val (.ref a1), .val (.int p2), .val (.int p3), .val (.int ii), .val (.int (own_c bs ii 0)), .val (.int (1 : Int32))] [])
            refine Rch.go (fun _ q => XS.iloadN X101.here hx rfl (hb hby d4_46) rfl  q) ?_
            show Rch p ev below _ T101 (mkF m 47 #[.val (.ref a1), .val (.int p2), .val (.int p3), .val (.int ii), .val (.int (own_c bs ii 0)), .val (.int (1 : Int32))] [(.int ii)])
            refine Rch.retI X101 hx hlk Bd.returns (hb hby d4_47) (by decide) (by decide) ?_
            unfold Qrm4
            exact ⟨by rw [← hv]; simp only [own_st, hsl, hc4, hc33, if_true, if_false]; first | done | rfl, N101, e101⟩
          · skip
            refine Rch.go (fun _ q => XS.icmpNo X101.here hx rfl (hb hby d4_33) rfl (flt hc33).2.2.1 q) ?_
            show Rch p ev below _ T101 (mkF m 36 #[.val (.ref a1), .val (.int p2), .val (.int p3), .val (.int ii), .val (.int (own_c bs ii 0)), .val (.int (1 : Int32))] [])
            have kn : (1 : Int32).toInt = 1 := rfl
            have hsb := c_isub p3 ii
            have hsr := rng32 (p3 - ii)
            have hav : ii.toInt + 1 ≤ p3.toInt := by rw [Int32.lt_iff_toInt_lt] at hc33; omega
            refine Rch.go (fun _ q => XS.aloadN X101.here hx rfl (hb hby d4_36) rfl rfl q) ?_
            show Rch p ev below _ T101 (mkF m 37 #[.val (.ref a1), .val (.int p2), .val (.int p3), .val (.int ii), .val (.int (own_c bs ii 0)), .val (.int (1 : Int32))] [(.ref a1)])
            refine Rch.go (fun _ q => XS.iloadN X101.here hx rfl (hb hby d4_37) rfl  q) ?_
            show Rch p ev below _ T101 (mkF m 38 #[.val (.ref a1), .val (.int p2), .val (.int p3), .val (.int ii), .val (.int (own_c bs ii 0)), .val (.int (1 : Int32))] [(.int ii), (.ref a1)])
            refine Rch.go (fun _ q => XS.iload X101.here hx rfl (hb hby d4_38) rfl  q) ?_
            show Rch p ev below _ T101 (mkF m 40 #[.val (.ref a1), .val (.int p2), .val (.int p3), .val (.int ii), .val (.int (own_c bs ii 0)), .val (.int (1 : Int32))] [(.int (1 : Int32)), (.int ii), (.ref a1)])
            obtain ⟨_, _, ⟨T102, L102, k102, n102⟩, -, X102, ⟨Lc102, hQ102, l102, y102, z102⟩, st102⟩ := Jvm.LawKit.callS X101 hx (y := (⟨"com/example/slicewright/slicewright/runtime/Utf8", "continues", "([BII)Z"⟩ : MethodName)) hown (mvT hZ (hw _ (List.mem_of_getElem? (i := 9) rfl))) (mvT hZ (hw _ (List.mem_of_getElem? (i := 10) rfl))) (mvT hZ (hw _ (List.mem_of_getElem? (i := 4) rfl))) (mvT hZ (hw _ (List.mem_of_getElem? (i := 11) rfl))) (by decide) (backOf (W := 0) (rm3_1 l Z a0 hw [] a1 ii k1 bs h0 n0 Z0 V1 hi0 (by omega)) hZ (hw _ (List.mem_of_getElem? (i := 11) rfl)) (hw _ (List.mem_of_getElem? (i := 4) rfl)) (by decide) (by decide)) (g := (mkF m 40 #[.val (.ref a1), .val (.int p2), .val (.int p3), .val (.int ii), .val (.int (own_c bs ii 0)), .val (.int (1 : Int32))] [(.int (1 : Int32)), (.int ii), (.ref a1)])) rfl (by rw [hml]; rfl) (argsL := [(.ref a1), (.int ii), (.int (1 : Int32))]) (rest := []) (lenOf own_pd2 rfl) rfl (by show 2 * 0 + _ ≤ _; exact Nat.le_of_eq rfl) (hb hby d4_40) (fun _ _ => ⟨rfl, e101, (by decide : 0 + 0 ≤ _), (by decide : 0 + 0 ≤ _)⟩)
            dsimp only [Pt.U, Pt.locs, Pt.cells, Pt.slots] at X102 l102 y102 z102 st102 hQ102
            subst l102 y102 z102
            obtain ⟨rfl, Nc, ec⟩ := hQ102
            refine Rch.go st102 ?_
            show Rch p ev below _ T102 (mkF m 43 #[.val (.ref a1), .val (.int p2), .val (.int p3), .val (.int ii), .val (.int (own_c bs ii 0)), .val (.int (1 : Int32))] [(.int own_cn1)])
            have N102 := Fr.app N101 Nc
            have e102 := ec
            show Rch p ev below _ T102 (mkF m 43 #[.val (.ref a1), .val (.int p2), .val (.int p3), .val (.int ii), .val (.int (own_c bs ii 0)), .val (.int (1 : Int32))] [(.int (1 : Int32))])
            refine Rch.go (fun _ q => XS.ifYes X102.here hx rfl (pc0 := 43) (pc' := 48) rfl (hb hby d4_43) rfl ((if0 _ _).trans (feq (by decide)).2) (by decide) (by decide) q) ?_
            show Rch p ev below _ T102 (mkF m 48 #[.val (.ref a1), .val (.int p2), .val (.int p3), .val (.int ii), .val (.int (own_c bs ii 0)), .val (.int (1 : Int32))] [])
            refine Rch.go (fun _ q => XS.iloadN X102.here hx rfl (hb hby d4_48) rfl  q) ?_
            show Rch p ev below _ T102 (mkF m 49 #[.val (.ref a1), .val (.int p2), .val (.int p3), .val (.int ii), .val (.int (own_c bs ii 0)), .val (.int (1 : Int32))] [(.int ii)])
            refine Rch.go (fun _ q => XS.iload X102.here hx rfl (hb hby d4_49) rfl  q) ?_
            show Rch p ev below _ T102 (mkF m 51 #[.val (.ref a1), .val (.int p2), .val (.int p3), .val (.int ii), .val (.int (own_c bs ii 0)), .val (.int (1 : Int32))] [(.int (1 : Int32)), (.int ii)])
            refine Rch.go (fun _ q => XS.iadd X102.here hx rfl (hb hby d4_51) rfl q) ?_
            show Rch p ev below _ T102 (mkF m 52 #[.val (.ref a1), .val (.int p2), .val (.int p3), .val (.int ii), .val (.int (own_c bs ii 0)), .val (.int (1 : Int32))] [(.int (ii + (1 : Int32)))])
            refine Rch.go (fun _ q => XS.istoreN X102.here hx rfl (hb hby d4_52) rfl (l' := #[.val (.ref a1), .val (.int p2), .val (.int p3), .val (.int (ii + (1 : Int32))), .val (.int (own_c bs ii 0)), .val (.int (1 : Int32))]) rfl q) ?_
            show Rch p ev below _ T102 (mkF m 53 #[.val (.ref a1), .val (.int p2), .val (.int p3), .val (.int (ii + (1 : Int32))), .val (.int (own_c bs ii 0)), .val (.int (1 : Int32))] [])
            refine Rch.go (fun _ q => XS.goto X102.here hx rfl (pc0 := 53) (pc' := 2) rfl (hb hby d4_53) (by decide) (by decide) q) ?_
            show Rch p ev below _ T102 (mkF m 2 #[.val (.ref a1), .val (.int p2), .val (.int p3), .val (.int (ii + (1 : Int32))), .val (.int (own_c bs ii 0)), .val (.int (1 : Int32))] [])
            have had := c_iadd ii (1 : Int32)
            have har := rng32 (ii + (1 : Int32))
            exact ih _ _ _ _ _ X102 e102 N102 (One.val rfl) (One.val rfl) (by omega) (by omega) (by omega) (by rw [← hv]; simp only [own_st, hsl, hc4, hc33, if_true, if_false]; rfl)
        · rw [hsl]
          show Rch p ev below _ T101 (mkF m 21 #[.val (.ref a1), .val (.int p2), .val (.int p3), .val (.int ii), .val (.int (own_c bs ii 0)), s5] [(.int (2 : Int32))])
          refine Rch.go (fun _ q => XS.istoreS X101.here hx rfl (hb hby d4_21) rfl rfl hs5 q) ?_
          show Rch p ev below _ T101 (mkF m 23 #[.val (.ref a1), .val (.int p2), .val (.int p3), .val (.int ii), .val (.int (own_c bs ii 0)), .val (.int (2 : Int32))] [])
          refine Rch.go (fun _ q => XS.iload X101.here hx rfl (hb hby d4_23) rfl  q) ?_
          show Rch p ev below _ T101 (mkF m 25 #[.val (.ref a1), .val (.int p2), .val (.int p3), .val (.int ii), .val (.int (own_c bs ii 0)), .val (.int (2 : Int32))] [(.int (2 : Int32))])
          refine Rch.go (fun _ q => XS.ifNo X101.here hx rfl (hb hby d4_25) rfl ((if0 _ _).trans (feq (by decide)).1) q) ?_
          show Rch p ev below _ T101 (mkF m 28 #[.val (.ref a1), .val (.int p2), .val (.int p3), .val (.int ii), .val (.int (own_c bs ii 0)), .val (.int (2 : Int32))] [])
          refine Rch.go (fun _ q => XS.iload X101.here hx rfl (hb hby d4_28) rfl  q) ?_
          show Rch p ev below _ T101 (mkF m 30 #[.val (.ref a1), .val (.int p2), .val (.int p3), .val (.int ii), .val (.int (own_c bs ii 0)), .val (.int (2 : Int32))] [(.int (2 : Int32))])
          refine Rch.go (fun _ q => XS.iloadN X101.here hx rfl (hb hby d4_30) rfl  q) ?_
          show Rch p ev below _ T101 (mkF m 31 #[.val (.ref a1), .val (.int p2), .val (.int p3), .val (.int ii), .val (.int (own_c bs ii 0)), .val (.int (2 : Int32))] [(.int p3), (.int (2 : Int32))])
          refine Rch.go (fun _ q => XS.iloadN X101.here hx rfl (hb hby d4_31) rfl  q) ?_
          show Rch p ev below _ T101 (mkF m 32 #[.val (.ref a1), .val (.int p2), .val (.int p3), .val (.int ii), .val (.int (own_c bs ii 0)), .val (.int (2 : Int32))] [(.int ii), (.int p3), (.int (2 : Int32))])
          refine Rch.go (fun _ q => XS.isub X101.here hx rfl (hb hby d4_32) rfl q) ?_
          show Rch p ev below _ T101 (mkF m 33 #[.val (.ref a1), .val (.int p2), .val (.int p3), .val (.int ii), .val (.int (own_c bs ii 0)), .val (.int (2 : Int32))] [(.int (p3 - ii)), (.int (2 : Int32))])
          by_cases hc33 : (p3 - ii) < (2 : Int32)
          · skip
            refine Rch.go (fun _ q => XS.icmpYes X101.here hx rfl (pc0 := 33) (pc' := 46) rfl (hb hby d4_33) rfl (tlt hc33).2.2.1 (by decide) (by decide) q) ?_
            show Rch p ev below _ T101 (mkF m 46 #[.val (.ref a1), .val (.int p2), .val (.int p3), .val (.int ii), .val (.int (own_c bs ii 0)), .val (.int (2 : Int32))] [])
            refine Rch.go (fun _ q => XS.iloadN X101.here hx rfl (hb hby d4_46) rfl  q) ?_
            show Rch p ev below _ T101 (mkF m 47 #[.val (.ref a1), .val (.int p2), .val (.int p3), .val (.int ii), .val (.int (own_c bs ii 0)), .val (.int (2 : Int32))] [(.int ii)])
            refine Rch.retI X101 hx hlk Bd.returns (hb hby d4_47) (by decide) (by decide) ?_
            unfold Qrm4
            exact ⟨by rw [← hv]; simp only [own_st, hsl, hc4, hc33, if_true, if_false]; first | done | rfl, N101, e101⟩
          · skip
            refine Rch.go (fun _ q => XS.icmpNo X101.here hx rfl (hb hby d4_33) rfl (flt hc33).2.2.1 q) ?_
            show Rch p ev below _ T101 (mkF m 36 #[.val (.ref a1), .val (.int p2), .val (.int p3), .val (.int ii), .val (.int (own_c bs ii 0)), .val (.int (2 : Int32))] [])
            have kn : (2 : Int32).toInt = 2 := rfl
            have hsb := c_isub p3 ii
            have hsr := rng32 (p3 - ii)
            have hav : ii.toInt + 2 ≤ p3.toInt := by rw [Int32.lt_iff_toInt_lt] at hc33; omega
            refine Rch.go (fun _ q => XS.aloadN X101.here hx rfl (hb hby d4_36) rfl rfl q) ?_
            show Rch p ev below _ T101 (mkF m 37 #[.val (.ref a1), .val (.int p2), .val (.int p3), .val (.int ii), .val (.int (own_c bs ii 0)), .val (.int (2 : Int32))] [(.ref a1)])
            refine Rch.go (fun _ q => XS.iloadN X101.here hx rfl (hb hby d4_37) rfl  q) ?_
            show Rch p ev below _ T101 (mkF m 38 #[.val (.ref a1), .val (.int p2), .val (.int p3), .val (.int ii), .val (.int (own_c bs ii 0)), .val (.int (2 : Int32))] [(.int ii), (.ref a1)])
            refine Rch.go (fun _ q => XS.iload X101.here hx rfl (hb hby d4_38) rfl  q) ?_
            show Rch p ev below _ T101 (mkF m 40 #[.val (.ref a1), .val (.int p2), .val (.int p3), .val (.int ii), .val (.int (own_c bs ii 0)), .val (.int (2 : Int32))] [(.int (2 : Int32)), (.int ii), (.ref a1)])
            obtain ⟨_, _, ⟨T103, L103, k103, n103⟩, -, X103, ⟨Lc103, hQ103, l103, y103, z103⟩, st103⟩ := Jvm.LawKit.callS X101 hx (y := (⟨"com/example/slicewright/slicewright/runtime/Utf8", "continues", "([BII)Z"⟩ : MethodName)) hown (mvT hZ (hw _ (List.mem_of_getElem? (i := 9) rfl))) (mvT hZ (hw _ (List.mem_of_getElem? (i := 10) rfl))) (mvT hZ (hw _ (List.mem_of_getElem? (i := 4) rfl))) (mvT hZ (hw _ (List.mem_of_getElem? (i := 11) rfl))) (by decide) (backOf (W := 0) (rm3_2 l Z a0 hw [] a1 ii k1 bs h0 n0 Z0 V1 hi0 (by omega)) hZ (hw _ (List.mem_of_getElem? (i := 11) rfl)) (hw _ (List.mem_of_getElem? (i := 4) rfl)) (by decide) (by decide)) (g := (mkF m 40 #[.val (.ref a1), .val (.int p2), .val (.int p3), .val (.int ii), .val (.int (own_c bs ii 0)), .val (.int (2 : Int32))] [(.int (2 : Int32)), (.int ii), (.ref a1)])) rfl (by rw [hml]; rfl) (argsL := [(.ref a1), (.int ii), (.int (2 : Int32))]) (rest := []) (lenOf own_pd2 rfl) rfl (by show 2 * 0 + _ ≤ _; exact Nat.le_of_eq rfl) (hb hby d4_40) (fun _ _ => ⟨rfl, e101, (by decide : 0 + 0 ≤ _), (by decide : 0 + 0 ≤ _)⟩)
            dsimp only [Pt.U, Pt.locs, Pt.cells, Pt.slots] at X103 l103 y103 z103 st103 hQ103
            subst l103 y103 z103
            obtain ⟨rfl, Nc, ec⟩ := hQ103
            refine Rch.go st103 ?_
            show Rch p ev below _ T103 (mkF m 43 #[.val (.ref a1), .val (.int p2), .val (.int p3), .val (.int ii), .val (.int (own_c bs ii 0)), .val (.int (2 : Int32))] [(.int (own_cn2 (own_c bs ii 1) (own_lo (own_c bs ii 0)) (own_hi (own_c bs ii 0))))])
            have N103 := Fr.app N101 Nc
            have e103 := ec
            by_cases hc43 : (own_cn2 (own_c bs ii 1) (own_lo (own_c bs ii 0)) (own_hi (own_c bs ii 0))) = (0 : Int32)
            · skip
              refine Rch.go (fun _ q => XS.ifNo X103.here hx rfl (hb hby d4_43) rfl ((if0 _ _).trans (teq hc43).2) q) ?_
              show Rch p ev below _ T103 (mkF m 46 #[.val (.ref a1), .val (.int p2), .val (.int p3), .val (.int ii), .val (.int (own_c bs ii 0)), .val (.int (2 : Int32))] [])
              refine Rch.go (fun _ q => XS.iloadN X103.here hx rfl (hb hby d4_46) rfl  q) ?_
              show Rch p ev below _ T103 (mkF m 47 #[.val (.ref a1), .val (.int p2), .val (.int p3), .val (.int ii), .val (.int (own_c bs ii 0)), .val (.int (2 : Int32))] [(.int ii)])
              refine Rch.retI X103 hx hlk Bd.returns (hb hby d4_47) (by decide) (by decide) ?_
              unfold Qrm4
              exact ⟨by rw [← hv]; simp only [own_st, hsl, hc4, hc33, hc43, if_true, if_false]; first | done | rfl, N103, e103⟩
            · skip
              refine Rch.go (fun _ q => XS.ifYes X103.here hx rfl (pc0 := 43) (pc' := 48) rfl (hb hby d4_43) rfl ((if0 _ _).trans (feq hc43).2) (by decide) (by decide) q) ?_
              show Rch p ev below _ T103 (mkF m 48 #[.val (.ref a1), .val (.int p2), .val (.int p3), .val (.int ii), .val (.int (own_c bs ii 0)), .val (.int (2 : Int32))] [])
              refine Rch.go (fun _ q => XS.iloadN X103.here hx rfl (hb hby d4_48) rfl  q) ?_
              show Rch p ev below _ T103 (mkF m 49 #[.val (.ref a1), .val (.int p2), .val (.int p3), .val (.int ii), .val (.int (own_c bs ii 0)), .val (.int (2 : Int32))] [(.int ii)])
              refine Rch.go (fun _ q => XS.iload X103.here hx rfl (hb hby d4_49) rfl  q) ?_
              show Rch p ev below _ T103 (mkF m 51 #[.val (.ref a1), .val (.int p2), .val (.int p3), .val (.int ii), .val (.int (own_c bs ii 0)), .val (.int (2 : Int32))] [(.int (2 : Int32)), (.int ii)])
              refine Rch.go (fun _ q => XS.iadd X103.here hx rfl (hb hby d4_51) rfl q) ?_
              show Rch p ev below _ T103 (mkF m 52 #[.val (.ref a1), .val (.int p2), .val (.int p3), .val (.int ii), .val (.int (own_c bs ii 0)), .val (.int (2 : Int32))] [(.int (ii + (2 : Int32)))])
              refine Rch.go (fun _ q => XS.istoreN X103.here hx rfl (hb hby d4_52) rfl (l' := #[.val (.ref a1), .val (.int p2), .val (.int p3), .val (.int (ii + (2 : Int32))), .val (.int (own_c bs ii 0)), .val (.int (2 : Int32))]) rfl q) ?_
              show Rch p ev below _ T103 (mkF m 53 #[.val (.ref a1), .val (.int p2), .val (.int p3), .val (.int (ii + (2 : Int32))), .val (.int (own_c bs ii 0)), .val (.int (2 : Int32))] [])
              refine Rch.go (fun _ q => XS.goto X103.here hx rfl (pc0 := 53) (pc' := 2) rfl (hb hby d4_53) (by decide) (by decide) q) ?_
              show Rch p ev below _ T103 (mkF m 2 #[.val (.ref a1), .val (.int p2), .val (.int p3), .val (.int (ii + (2 : Int32))), .val (.int (own_c bs ii 0)), .val (.int (2 : Int32))] [])
              have had := c_iadd ii (2 : Int32)
              have har := rng32 (ii + (2 : Int32))
              exact ih _ _ _ _ _ X103 e103 N103 (One.val rfl) (One.val rfl) (by omega) (by omega) (by omega) (by rw [← hv]; simp only [own_st, hsl, hc4, hc33, hc43, if_true, if_false]; rfl)
        · rw [hsl]
          show Rch p ev below _ T101 (mkF m 21 #[.val (.ref a1), .val (.int p2), .val (.int p3), .val (.int ii), .val (.int (own_c bs ii 0)), s5] [(.int (3 : Int32))])
          refine Rch.go (fun _ q => XS.istoreS X101.here hx rfl (hb hby d4_21) rfl rfl hs5 q) ?_
          show Rch p ev below _ T101 (mkF m 23 #[.val (.ref a1), .val (.int p2), .val (.int p3), .val (.int ii), .val (.int (own_c bs ii 0)), .val (.int (3 : Int32))] [])
          refine Rch.go (fun _ q => XS.iload X101.here hx rfl (hb hby d4_23) rfl  q) ?_
          show Rch p ev below _ T101 (mkF m 25 #[.val (.ref a1), .val (.int p2), .val (.int p3), .val (.int ii), .val (.int (own_c bs ii 0)), .val (.int (3 : Int32))] [(.int (3 : Int32))])
          refine Rch.go (fun _ q => XS.ifNo X101.here hx rfl (hb hby d4_25) rfl ((if0 _ _).trans (feq (by decide)).1) q) ?_
          show Rch p ev below _ T101 (mkF m 28 #[.val (.ref a1), .val (.int p2), .val (.int p3), .val (.int ii), .val (.int (own_c bs ii 0)), .val (.int (3 : Int32))] [])
          refine Rch.go (fun _ q => XS.iload X101.here hx rfl (hb hby d4_28) rfl  q) ?_
          show Rch p ev below _ T101 (mkF m 30 #[.val (.ref a1), .val (.int p2), .val (.int p3), .val (.int ii), .val (.int (own_c bs ii 0)), .val (.int (3 : Int32))] [(.int (3 : Int32))])
          refine Rch.go (fun _ q => XS.iloadN X101.here hx rfl (hb hby d4_30) rfl  q) ?_
          show Rch p ev below _ T101 (mkF m 31 #[.val (.ref a1), .val (.int p2), .val (.int p3), .val (.int ii), .val (.int (own_c bs ii 0)), .val (.int (3 : Int32))] [(.int p3), (.int (3 : Int32))])
          refine Rch.go (fun _ q => XS.iloadN X101.here hx rfl (hb hby d4_31) rfl  q) ?_
          show Rch p ev below _ T101 (mkF m 32 #[.val (.ref a1), .val (.int p2), .val (.int p3), .val (.int ii), .val (.int (own_c bs ii 0)), .val (.int (3 : Int32))] [(.int ii), (.int p3), (.int (3 : Int32))])
          refine Rch.go (fun _ q => XS.isub X101.here hx rfl (hb hby d4_32) rfl q) ?_
          show Rch p ev below _ T101 (mkF m 33 #[.val (.ref a1), .val (.int p2), .val (.int p3), .val (.int ii), .val (.int (own_c bs ii 0)), .val (.int (3 : Int32))] [(.int (p3 - ii)), (.int (3 : Int32))])
          by_cases hc33 : (p3 - ii) < (3 : Int32)
          · skip
            refine Rch.go (fun _ q => XS.icmpYes X101.here hx rfl (pc0 := 33) (pc' := 46) rfl (hb hby d4_33) rfl (tlt hc33).2.2.1 (by decide) (by decide) q) ?_
            show Rch p ev below _ T101 (mkF m 46 #[.val (.ref a1), .val (.int p2), .val (.int p3), .val (.int ii), .val (.int (own_c bs ii 0)), .val (.int (3 : Int32))] [])
            refine Rch.go (fun _ q => XS.iloadN X101.here hx rfl (hb hby d4_46) rfl  q) ?_
            show Rch p ev below _ T101 (mkF m 47 #[.val (.ref a1), .val (.int p2), .val (.int p3), .val (.int ii), .val (.int (own_c bs ii 0)), .val (.int (3 : Int32))] [(.int ii)])
            refine Rch.retI X101 hx hlk Bd.returns (hb hby d4_47) (by decide) (by decide) ?_
            unfold Qrm4
            exact ⟨by rw [← hv]; simp only [own_st, hsl, hc4, hc33, if_true, if_false]; first | done | rfl, N101, e101⟩
          · skip
            refine Rch.go (fun _ q => XS.icmpNo X101.here hx rfl (hb hby d4_33) rfl (flt hc33).2.2.1 q) ?_
            show Rch p ev below _ T101 (mkF m 36 #[.val (.ref a1), .val (.int p2), .val (.int p3), .val (.int ii), .val (.int (own_c bs ii 0)), .val (.int (3 : Int32))] [])
            have kn : (3 : Int32).toInt = 3 := rfl
            have hsb := c_isub p3 ii
            have hsr := rng32 (p3 - ii)
            have hav : ii.toInt + 3 ≤ p3.toInt := by rw [Int32.lt_iff_toInt_lt] at hc33; omega
            refine Rch.go (fun _ q => XS.aloadN X101.here hx rfl (hb hby d4_36) rfl rfl q) ?_
            show Rch p ev below _ T101 (mkF m 37 #[.val (.ref a1), .val (.int p2), .val (.int p3), .val (.int ii), .val (.int (own_c bs ii 0)), .val (.int (3 : Int32))] [(.ref a1)])
            refine Rch.go (fun _ q => XS.iloadN X101.here hx rfl (hb hby d4_37) rfl  q) ?_
            show Rch p ev below _ T101 (mkF m 38 #[.val (.ref a1), .val (.int p2), .val (.int p3), .val (.int ii), .val (.int (own_c bs ii 0)), .val (.int (3 : Int32))] [(.int ii), (.ref a1)])
            refine Rch.go (fun _ q => XS.iload X101.here hx rfl (hb hby d4_38) rfl  q) ?_
            show Rch p ev below _ T101 (mkF m 40 #[.val (.ref a1), .val (.int p2), .val (.int p3), .val (.int ii), .val (.int (own_c bs ii 0)), .val (.int (3 : Int32))] [(.int (3 : Int32)), (.int ii), (.ref a1)])
            obtain ⟨_, _, ⟨T104, L104, k104, n104⟩, -, X104, ⟨Lc104, hQ104, l104, y104, z104⟩, st104⟩ := Jvm.LawKit.callS X101 hx (y := (⟨"com/example/slicewright/slicewright/runtime/Utf8", "continues", "([BII)Z"⟩ : MethodName)) hown (mvT hZ (hw _ (List.mem_of_getElem? (i := 9) rfl))) (mvT hZ (hw _ (List.mem_of_getElem? (i := 10) rfl))) (mvT hZ (hw _ (List.mem_of_getElem? (i := 4) rfl))) (mvT hZ (hw _ (List.mem_of_getElem? (i := 11) rfl))) (by decide) (backOf (W := 0) (rm3_3 l Z a0 hw [] a1 ii k1 bs h0 n0 Z0 V1 hi0 (by omega)) hZ (hw _ (List.mem_of_getElem? (i := 11) rfl)) (hw _ (List.mem_of_getElem? (i := 4) rfl)) (by decide) (by decide)) (g := (mkF m 40 #[.val (.ref a1), .val (.int p2), .val (.int p3), .val (.int ii), .val (.int (own_c bs ii 0)), .val (.int (3 : Int32))] [(.int (3 : Int32)), (.int ii), (.ref a1)])) rfl (by rw [hml]; rfl) (argsL := [(.ref a1), (.int ii), (.int (3 : Int32))]) (rest := []) (lenOf own_pd2 rfl) rfl (by show 2 * 0 + _ ≤ _; exact Nat.le_of_eq rfl) (hb hby d4_40) (fun _ _ => ⟨rfl, e101, (by decide : 0 + 0 ≤ _), (by decide : 0 + 0 ≤ _)⟩)
            dsimp only [Pt.U, Pt.locs, Pt.cells, Pt.slots] at X104 l104 y104 z104 st104 hQ104
            subst l104 y104 z104
            obtain ⟨rfl, Nc, ec⟩ := hQ104
            refine Rch.go st104 ?_
            show Rch p ev below _ T104 (mkF m 43 #[.val (.ref a1), .val (.int p2), .val (.int p3), .val (.int ii), .val (.int (own_c bs ii 0)), .val (.int (3 : Int32))] [(.int (own_cn3 (own_c bs ii 1) (own_c bs ii 2) (own_lo (own_c bs ii 0)) (own_hi (own_c bs ii 0))))])
            have N104 := Fr.app N101 Nc
            have e104 := ec
            by_cases hc43 : (own_cn3 (own_c bs ii 1) (own_c bs ii 2) (own_lo (own_c bs ii 0)) (own_hi (own_c bs ii 0))) = (0 : Int32)
            · skip
              refine Rch.go (fun _ q => XS.ifNo X104.here hx rfl (hb hby d4_43) rfl ((if0 _ _).trans (teq hc43).2) q) ?_
              show Rch p ev below _ T104 (mkF m 46 #[.val (.ref a1), .val (.int p2), .val (.int p3), .val (.int ii), .val (.int (own_c bs ii 0)), .val (.int (3 : Int32))] [])
              refine Rch.go (fun _ q => XS.iloadN X104.here hx rfl (hb hby d4_46) rfl  q) ?_
              show Rch p ev below _ T104 (mkF m 47 #[.val (.ref a1), .val (.int p2), .val (.int p3), .val (.int ii), .val (.int (own_c bs ii 0)), .val (.int (3 : Int32))] [(.int ii)])
              refine Rch.retI X104 hx hlk Bd.returns (hb hby d4_47) (by decide) (by decide) ?_
              unfold Qrm4
              exact ⟨by rw [← hv]; simp only [own_st, hsl, hc4, hc33, hc43, if_true, if_false]; first | done | rfl, N104, e104⟩
            · skip
              refine Rch.go (fun _ q => XS.ifYes X104.here hx rfl (pc0 := 43) (pc' := 48) rfl (hb hby d4_43) rfl ((if0 _ _).trans (feq hc43).2) (by decide) (by decide) q) ?_
              show Rch p ev below _ T104 (mkF m 48 #[.val (.ref a1), .val (.int p2), .val (.int p3), .val (.int ii), .val (.int (own_c bs ii 0)), .val (.int (3 : Int32))] [])
              refine Rch.go (fun _ q => XS.iloadN X104.here hx rfl (hb hby d4_48) rfl  q) ?_
              show Rch p ev below _ T104 (mkF m 49 #[.val (.ref a1), .val (.int p2), .val (.int p3), .val (.int ii), .val (.int (own_c bs ii 0)), .val (.int (3 : Int32))] [(.int ii)])
              refine Rch.go (fun _ q => XS.iload X104.here hx rfl (hb hby d4_49) rfl  q) ?_
              show Rch p ev below _ T104 (mkF m 51 #[.val (.ref a1), .val (.int p2), .val (.int p3), .val (.int ii), .val (.int (own_c bs ii 0)), .val (.int (3 : Int32))] [(.int (3 : Int32)), (.int ii)])
              refine Rch.go (fun _ q => XS.iadd X104.here hx rfl (hb hby d4_51) rfl q) ?_
              show Rch p ev below _ T104 (mkF m 52 #[.val (.ref a1), .val (.int p2), .val (.int p3), .val (.int ii), .val (.int (own_c bs ii 0)), .val (.int (3 : Int32))] [(.int (ii + (3 : Int32)))])
              refine Rch.go (fun _ q => XS.istoreN X104.here hx rfl (hb hby d4_52) rfl (l' := #[.val (.ref a1), .val (.int p2), .val (.int p3), .val (.int (ii + (3 : Int32))), .val (.int (own_c bs ii 0)), .val (.int (3 : Int32))]) rfl q) ?_
              show Rch p ev below _ T104 (mkF m 53 #[.val (.ref a1), .val (.int p2), .val (.int p3), .val (.int (ii + (3 : Int32))), .val (.int (own_c bs ii 0)), .val (.int (3 : Int32))] [])
              refine Rch.go (fun _ q => XS.goto X104.here hx rfl (pc0 := 53) (pc' := 2) rfl (hb hby d4_53) (by decide) (by decide) q) ?_
              show Rch p ev below _ T104 (mkF m 2 #[.val (.ref a1), .val (.int p2), .val (.int p3), .val (.int (ii + (3 : Int32))), .val (.int (own_c bs ii 0)), .val (.int (3 : Int32))] [])
              have had := c_iadd ii (3 : Int32)
              have har := rng32 (ii + (3 : Int32))
              exact ih _ _ _ _ _ X104 e104 N104 (One.val rfl) (One.val rfl) (by omega) (by omega) (by omega) (by rw [← hv]; simp only [own_st, hsl, hc4, hc33, hc43, if_true, if_false]; rfl)
        · rw [hsl]
          show Rch p ev below _ T101 (mkF m 21 #[.val (.ref a1), .val (.int p2), .val (.int p3), .val (.int ii), .val (.int (own_c bs ii 0)), s5] [(.int (4 : Int32))])
          refine Rch.go (fun _ q => XS.istoreS X101.here hx rfl (hb hby d4_21) rfl rfl hs5 q) ?_
          show Rch p ev below _ T101 (mkF m 23 #[.val (.ref a1), .val (.int p2), .val (.int p3), .val (.int ii), .val (.int (own_c bs ii 0)), .val (.int (4 : Int32))] [])
          refine Rch.go (fun _ q => XS.iload X101.here hx rfl (hb hby d4_23) rfl  q) ?_
          show Rch p ev below _ T101 (mkF m 25 #[.val (.ref a1), .val (.int p2), .val (.int p3), .val (.int ii), .val (.int (own_c bs ii 0)), .val (.int (4 : Int32))] [(.int (4 : Int32))])
          refine Rch.go (fun _ q => XS.ifNo X101.here hx rfl (hb hby d4_25) rfl ((if0 _ _).trans (feq (by decide)).1) q) ?_
          show Rch p ev below _ T101 (mkF m 28 #[.val (.ref a1), .val (.int p2), .val (.int p3), .val (.int ii), .val (.int (own_c bs ii 0)), .val (.int (4 : Int32))] [])
          refine Rch.go (fun _ q => XS.iload X101.here hx rfl (hb hby d4_28) rfl  q) ?_
          show Rch p ev below _ T101 (mkF m 30 #[.val (.ref a1), .val (.int p2), .val (.int p3), .val (.int ii), .val (.int (own_c bs ii 0)), .val (.int (4 : Int32))] [(.int (4 : Int32))])
          refine Rch.go (fun _ q => XS.iloadN X101.here hx rfl (hb hby d4_30) rfl  q) ?_
          show Rch p ev below _ T101 (mkF m 31 #[.val (.ref a1), .val (.int p2), .val (.int p3), .val (.int ii), .val (.int (own_c bs ii 0)), .val (.int (4 : Int32))] [(.int p3), (.int (4 : Int32))])
          refine Rch.go (fun _ q => XS.iloadN X101.here hx rfl (hb hby d4_31) rfl  q) ?_
          show Rch p ev below _ T101 (mkF m 32 #[.val (.ref a1), .val (.int p2), .val (.int p3), .val (.int ii), .val (.int (own_c bs ii 0)), .val (.int (4 : Int32))] [(.int ii), (.int p3), (.int (4 : Int32))])
          refine Rch.go (fun _ q => XS.isub X101.here hx rfl (hb hby d4_32) rfl q) ?_
          show Rch p ev below _ T101 (mkF m 33 #[.val (.ref a1), .val (.int p2), .val (.int p3), .val (.int ii), .val (.int (own_c bs ii 0)), .val (.int (4 : Int32))] [(.int (p3 - ii)), (.int (4 : Int32))])
          by_cases hc33 : (p3 - ii) < (4 : Int32)
          · skip
            refine Rch.go (fun _ q => XS.icmpYes X101.here hx rfl (pc0 := 33) (pc' := 46) rfl (hb hby d4_33) rfl (tlt hc33).2.2.1 (by decide) (by decide) q) ?_
            show Rch p ev below _ T101 (mkF m 46 #[.val (.ref a1), .val (.int p2), .val (.int p3), .val (.int ii), .val (.int (own_c bs ii 0)), .val (.int (4 : Int32))] [])
            refine Rch.go (fun _ q => XS.iloadN X101.here hx rfl (hb hby d4_46) rfl  q) ?_
            show Rch p ev below _ T101 (mkF m 47 #[.val (.ref a1), .val (.int p2), .val (.int p3), .val (.int ii), .val (.int (own_c bs ii 0)), .val (.int (4 : Int32))] [(.int ii)])
            refine Rch.retI X101 hx hlk Bd.returns (hb hby d4_47) (by decide) (by decide) ?_
            unfold Qrm4
            exact ⟨by rw [← hv]; simp only [own_st, hsl, hc4, hc33, if_true, if_false]; first | done | rfl, N101, e101⟩
          · skip
            refine Rch.go (fun _ q => XS.icmpNo X101.here hx rfl (hb hby d4_33) rfl (flt hc33).2.2.1 q) ?_
            show Rch p ev below _ T101 (mkF m 36 #[.val (.ref a1), .val (.int p2), .val (.int p3), .val (.int ii), .val (.int (own_c bs ii 0)), .val (.int (4 : Int32))] [])
            have kn : (4 : Int32).toInt = 4 := rfl
            have hsb := c_isub p3 ii
            have hsr := rng32 (p3 - ii)
            have hav : ii.toInt + 4 ≤ p3.toInt := by rw [Int32.lt_iff_toInt_lt] at hc33; omega
            refine Rch.go (fun _ q => XS.aloadN X101.here hx rfl (hb hby d4_36) rfl rfl q) ?_
            show Rch p ev below _ T101 (mkF m 37 #[.val (.ref a1), .val (.int p2), .val (.int p3), .val (.int ii), .val (.int (own_c bs ii 0)), .val (.int (4 : Int32))] [(.ref a1)])
            refine Rch.go (fun _ q => XS.iloadN X101.here hx rfl (hb hby d4_37) rfl  q) ?_
            show Rch p ev below _ T101 (mkF m 38 #[.val (.ref a1), .val (.int p2), .val (.int p3), .val (.int ii), .val (.int (own_c bs ii 0)), .val (.int (4 : Int32))] [(.int ii), (.ref a1)])
            refine Rch.go (fun _ q => XS.iload X101.here hx rfl (hb hby d4_38) rfl  q) ?_
            show Rch p ev below _ T101 (mkF m 40 #[.val (.ref a1), .val (.int p2), .val (.int p3), .val (.int ii), .val (.int (own_c bs ii 0)), .val (.int (4 : Int32))] [(.int (4 : Int32)), (.int ii), (.ref a1)])
            obtain ⟨_, _, ⟨T105, L105, k105, n105⟩, -, X105, ⟨Lc105, hQ105, l105, y105, z105⟩, st105⟩ := Jvm.LawKit.callS X101 hx (y := (⟨"com/example/slicewright/slicewright/runtime/Utf8", "continues", "([BII)Z"⟩ : MethodName)) hown (mvT hZ (hw _ (List.mem_of_getElem? (i := 9) rfl))) (mvT hZ (hw _ (List.mem_of_getElem? (i := 10) rfl))) (mvT hZ (hw _ (List.mem_of_getElem? (i := 4) rfl))) (mvT hZ (hw _ (List.mem_of_getElem? (i := 11) rfl))) (by decide) (backOf (W := 0) (rm3_4 l Z a0 hw [] a1 ii k1 bs h0 n0 Z0 V1 hi0 (by omega)) hZ (hw _ (List.mem_of_getElem? (i := 11) rfl)) (hw _ (List.mem_of_getElem? (i := 4) rfl)) (by decide) (by decide)) (g := (mkF m 40 #[.val (.ref a1), .val (.int p2), .val (.int p3), .val (.int ii), .val (.int (own_c bs ii 0)), .val (.int (4 : Int32))] [(.int (4 : Int32)), (.int ii), (.ref a1)])) rfl (by rw [hml]; rfl) (argsL := [(.ref a1), (.int ii), (.int (4 : Int32))]) (rest := []) (lenOf own_pd2 rfl) rfl (by show 2 * 0 + _ ≤ _; exact Nat.le_of_eq rfl) (hb hby d4_40) (fun _ _ => ⟨rfl, e101, (by decide : 0 + 0 ≤ _), (by decide : 0 + 0 ≤ _)⟩)
            dsimp only [Pt.U, Pt.locs, Pt.cells, Pt.slots] at X105 l105 y105 z105 st105 hQ105
            subst l105 y105 z105
            obtain ⟨rfl, Nc, ec⟩ := hQ105
            refine Rch.go st105 ?_
            show Rch p ev below _ T105 (mkF m 43 #[.val (.ref a1), .val (.int p2), .val (.int p3), .val (.int ii), .val (.int (own_c bs ii 0)), .val (.int (4 : Int32))] [(.int (own_cn4 (own_c bs ii 1) (own_c bs ii 2) (own_c bs ii 3) (own_lo (own_c bs ii 0)) (own_hi (own_c bs ii 0))))])
            have N105 := Fr.app N101 Nc
            have e105 := ec
            by_cases hc43 : (own_cn4 (own_c bs ii 1) (own_c bs ii 2) (own_c bs ii 3) (own_lo (own_c bs ii 0)) (own_hi (own_c bs ii 0))) = (0 : Int32)
            · skip
              refine Rch.go (fun _ q => XS.ifNo X105.here hx rfl (hb hby d4_43) rfl ((if0 _ _).trans (teq hc43).2) q) ?_
              show Rch p ev below _ T105 (mkF m 46 #[.val (.ref a1), .val (.int p2), .val (.int p3), .val (.int ii), .val (.int (own_c bs ii 0)), .val (.int (4 : Int32))] [])
              refine Rch.go (fun _ q => XS.iloadN X105.here hx rfl (hb hby d4_46) rfl  q) ?_
              show Rch p ev below _ T105 (mkF m 47 #[.val (.ref a1), .val (.int p2), .val (.int p3), .val (.int ii), .val (.int (own_c bs ii 0)), .val (.int (4 : Int32))] [(.int ii)])
              refine Rch.retI X105 hx hlk Bd.returns (hb hby d4_47) (by decide) (by decide) ?_
              unfold Qrm4
              exact ⟨by rw [← hv]; simp only [own_st, hsl, hc4, hc33, hc43, if_true, if_false]; first | done | rfl, N105, e105⟩
            · skip
              refine Rch.go (fun _ q => XS.ifYes X105.here hx rfl (pc0 := 43) (pc' := 48) rfl (hb hby d4_43) rfl ((if0 _ _).trans (feq hc43).2) (by decide) (by decide) q) ?_
              show Rch p ev below _ T105 (mkF m 48 #[.val (.ref a1), .val (.int p2), .val (.int p3), .val (.int ii), .val (.int (own_c bs ii 0)), .val (.int (4 : Int32))] [])
              refine Rch.go (fun _ q => XS.iloadN X105.here hx rfl (hb hby d4_48) rfl  q) ?_
              show Rch p ev below _ T105 (mkF m 49 #[.val (.ref a1), .val (.int p2), .val (.int p3), .val (.int ii), .val (.int (own_c bs ii 0)), .val (.int (4 : Int32))] [(.int ii)])
              refine Rch.go (fun _ q => XS.iload X105.here hx rfl (hb hby d4_49) rfl  q) ?_
              show Rch p ev below _ T105 (mkF m 51 #[.val (.ref a1), .val (.int p2), .val (.int p3), .val (.int ii), .val (.int (own_c bs ii 0)), .val (.int (4 : Int32))] [(.int (4 : Int32)), (.int ii)])
              refine Rch.go (fun _ q => XS.iadd X105.here hx rfl (hb hby d4_51) rfl q) ?_
              show Rch p ev below _ T105 (mkF m 52 #[.val (.ref a1), .val (.int p2), .val (.int p3), .val (.int ii), .val (.int (own_c bs ii 0)), .val (.int (4 : Int32))] [(.int (ii + (4 : Int32)))])
              refine Rch.go (fun _ q => XS.istoreN X105.here hx rfl (hb hby d4_52) rfl (l' := #[.val (.ref a1), .val (.int p2), .val (.int p3), .val (.int (ii + (4 : Int32))), .val (.int (own_c bs ii 0)), .val (.int (4 : Int32))]) rfl q) ?_
              show Rch p ev below _ T105 (mkF m 53 #[.val (.ref a1), .val (.int p2), .val (.int p3), .val (.int (ii + (4 : Int32))), .val (.int (own_c bs ii 0)), .val (.int (4 : Int32))] [])
              refine Rch.go (fun _ q => XS.goto X105.here hx rfl (pc0 := 53) (pc' := 2) rfl (hb hby d4_53) (by decide) (by decide) q) ?_
              show Rch p ev below _ T105 (mkF m 2 #[.val (.ref a1), .val (.int p2), .val (.int p3), .val (.int (ii + (4 : Int32))), .val (.int (own_c bs ii 0)), .val (.int (4 : Int32))] [])
              have had := c_iadd ii (4 : Int32)
              have har := rng32 (ii + (4 : Int32))
              exact ih _ _ _ _ _ X105 e105 N105 (One.val rfl) (One.val rfl) (by omega) (by omega) (by omega) (by rw [← hv]; simp only [own_st, hsl, hc4, hc33, hc43, if_true, if_false]; rfl)
      · skip
        refine Rch.go (fun _ q => XS.icmpYes Xl.here hx rfl (pc0 := 4) (pc' := 56) rfl (hb hby d4_4) rfl (flt hc4).2.1 (by decide) (by decide) q) ?_
        show Rch p ev below _ T0 (mkF m 56 #[.val (.ref a1), .val (.int p2), .val (.int p3), .val (.int ii), s4, s5] [])
        refine Rch.go (fun _ q => XS.iloadN Xl.here hx rfl (hb hby d4_56) rfl  q) ?_
        show Rch p ev below _ T0 (mkF m 57 #[.val (.ref a1), .val (.int p2), .val (.int p3), .val (.int ii), s4, s5] [(.int p3)])
        refine Rch.retI Xl hx hlk Bd.returns (hb hby d4_57) (by decide) (by decide) ?_
        unfold Qrm4
        exact ⟨by rw [← hv]; simp only [own_st, hc4, if_true, if_false]; first | done | rfl, NN, eT⟩
  refine Rch.go (fun _ q => XS.iloadN X0.here hx rfl (hb hby d4_0) rfl  q) ?_
  show Rch p ev below _ s₁ (mkF m 1 #[.val (.ref a1), .val (.int p2), .val (.int p3), .unset, .unset, .unset] [(.int p2)])
  refine Rch.go (fun _ q => XS.istoreN X0.here hx rfl (hb hby d4_1) rfl (l' := #[.val (.ref a1), .val (.int p2), .val (.int p3), .val (.int p2), .unset, .unset]) rfl q) ?_
  show Rch p ev below _ s₁ (mkF m 2 #[.val (.ref a1), .val (.int p2), .val (.int p3), .val (.int p2), .unset, .unset] [])
  exact loop 6 _ _ _ _ _ X0 e0 N0 One.u One.u hf0 hft (by omega) rfl
theorem own_pn4 : plainFor (⟨"com/example/slicewright/slicewright/runtime/Utf8WellFormedUpToPinLaw", "seq", "([BII)I"⟩ : MethodName) = true := by first | exact plainFor_of_name (by first | (simp [plainName, overriddenIn]; done) | decide +kernel) | decide +kernel
theorem d5_0 : decode method_4_code 0 = .ok (.iload_n 2, 1) := by decide +kernel
theorem d5_1 : decode method_4_code 1 = .ok (.iload_n 1, 1) := by decide +kernel
theorem d5_2 : decode method_4_code 2 = .ok (.isub, 1) := by decide +kernel
theorem d5_3 : decode method_4_code 3 = .ok (.istore_n 3, 1) := by decide +kernel
theorem d5_4 : decode method_4_code 4 = .ok (.aload_n 0, 1) := by decide +kernel
theorem d5_5 : decode method_4_code 5 = .ok (.iload_n 1, 1) := by decide +kernel
theorem d5_6 : decode method_4_code 6 = .ok (.baload, 1) := by decide +kernel
theorem d5_7 : decode method_4_code 7 = .ok (.sipush 255, 3) := by decide +kernel
theorem d5_10 : decode method_4_code 10 = .ok (.iand, 1) := by decide +kernel
theorem d5_11 : decode method_4_code 11 = .ok (.istore 4, 2) := by decide +kernel
theorem d5_13 : decode method_4_code 13 = .ok (.iload 4, 2) := by decide +kernel
theorem d5_15 : decode method_4_code 15 = .ok (.sipush 128, 3) := by decide +kernel
theorem d5_18 : decode method_4_code 18 = .ok (.if_icmp .ge 5, 3) := by decide +kernel
theorem d5_21 : decode method_4_code 21 = .ok (.iconst 1, 1) := by decide +kernel
theorem d5_22 : decode method_4_code 22 = .ok (.ireturn, 1) := by decide +kernel
theorem d5_23 : decode method_4_code 23 = .ok (.iload 4, 2) := by decide +kernel
theorem d5_25 : decode method_4_code 25 = .ok (.sipush 224, 3) := by decide +kernel
theorem d5_28 : decode method_4_code 28 = .ok (.iand, 1) := by decide +kernel
theorem d5_29 : decode method_4_code 29 = .ok (.sipush 192, 3) := by decide +kernel
theorem d5_32 : decode method_4_code 32 = .ok (.if_icmp .ne 21, 3) := by decide +kernel
theorem d5_35 : decode method_4_code 35 = .ok (.iconst 2, 1) := by decide +kernel
theorem d5_36 : decode method_4_code 36 = .ok (.istore 5, 2) := by decide +kernel
theorem d5_38 : decode method_4_code 38 = .ok (.iload 4, 2) := by decide +kernel
theorem d5_40 : decode method_4_code 40 = .ok (.bipush 31, 2) := by decide +kernel
theorem d5_42 : decode method_4_code 42 = .ok (.iand, 1) := by decide +kernel
theorem d5_43 : decode method_4_code 43 = .ok (.istore 6, 2) := by decide +kernel
theorem d5_45 : decode method_4_code 45 = .ok (.sipush 128, 3) := by decide +kernel
theorem d5_48 : decode method_4_code 48 = .ok (.istore 7, 2) := by decide +kernel
theorem d5_50 : decode method_4_code 50 = .ok (.goto 64, 3) := by decide +kernel
theorem d5_53 : decode method_4_code 53 = .ok (.iload 4, 2) := by decide +kernel
theorem d5_55 : decode method_4_code 55 = .ok (.sipush 240, 3) := by decide +kernel
theorem d5_58 : decode method_4_code 58 = .ok (.iand, 1) := by decide +kernel
theorem d5_59 : decode method_4_code 59 = .ok (.sipush 224, 3) := by decide +kernel
theorem d5_62 : decode method_4_code 62 = .ok (.if_icmp .ne 21, 3) := by decide +kernel
theorem d5_65 : decode method_4_code 65 = .ok (.iconst 3, 1) := by decide +kernel
theorem d5_66 : decode method_4_code 66 = .ok (.istore 5, 2) := by decide +kernel
theorem d5_68 : decode method_4_code 68 = .ok (.iload 4, 2) := by decide +kernel
theorem d5_70 : decode method_4_code 70 = .ok (.bipush 15, 2) := by decide +kernel
theorem d5_72 : decode method_4_code 72 = .ok (.iand, 1) := by decide +kernel
theorem d5_73 : decode method_4_code 73 = .ok (.istore 6, 2) := by decide +kernel
theorem d5_75 : decode method_4_code 75 = .ok (.sipush 2048, 3) := by decide +kernel
theorem d5_78 : decode method_4_code 78 = .ok (.istore 7, 2) := by decide +kernel
theorem d5_80 : decode method_4_code 80 = .ok (.goto 34, 3) := by decide +kernel
theorem d5_83 : decode method_4_code 83 = .ok (.iload 4, 2) := by decide +kernel
theorem d5_85 : decode method_4_code 85 = .ok (.sipush 248, 3) := by decide +kernel
theorem d5_88 : decode method_4_code 88 = .ok (.iand, 1) := by decide +kernel
theorem d5_89 : decode method_4_code 89 = .ok (.sipush 240, 3) := by decide +kernel
theorem d5_92 : decode method_4_code 92 = .ok (.if_icmp .ne 20, 3) := by decide +kernel
theorem d5_95 : decode method_4_code 95 = .ok (.iconst 4, 1) := by decide +kernel
theorem d5_96 : decode method_4_code 96 = .ok (.istore 5, 2) := by decide +kernel
theorem d5_98 : decode method_4_code 98 = .ok (.iload 4, 2) := by decide +kernel
theorem d5_100 : decode method_4_code 100 = .ok (.bipush 7, 2) := by decide +kernel
theorem d5_102 : decode method_4_code 102 = .ok (.iand, 1) := by decide +kernel
theorem d5_103 : decode method_4_code 103 = .ok (.istore 6, 2) := by decide +kernel
theorem d5_105 : decode method_4_code 105 = .ok (.ldc 22, 2) := by decide +kernel
theorem d5_107 : decode method_4_code 107 = .ok (.istore 7, 2) := by decide +kernel
theorem d5_109 : decode method_4_code 109 = .ok (.goto 5, 3) := by decide +kernel
theorem d5_112 : decode method_4_code 112 = .ok (.iconst 0, 1) := by decide +kernel
theorem d5_113 : decode method_4_code 113 = .ok (.ireturn, 1) := by decide +kernel
theorem d5_114 : decode method_4_code 114 = .ok (.iload 5, 2) := by decide +kernel
theorem d5_116 : decode method_4_code 116 = .ok (.iload_n 3, 1) := by decide +kernel
theorem d5_117 : decode method_4_code 117 = .ok (.if_icmp .le 5, 3) := by decide +kernel
theorem d5_120 : decode method_4_code 120 = .ok (.iconst 0, 1) := by decide +kernel
theorem d5_121 : decode method_4_code 121 = .ok (.ireturn, 1) := by decide +kernel
theorem d5_122 : decode method_4_code 122 = .ok (.aload_n 0, 1) := by decide +kernel
theorem d5_123 : decode method_4_code 123 = .ok (.iload_n 1, 1) := by decide +kernel
theorem d5_124 : decode method_4_code 124 = .ok (.iconst 1, 1) := by decide +kernel
theorem d5_125 : decode method_4_code 125 = .ok (.iadd, 1) := by decide +kernel
theorem d5_126 : decode method_4_code 126 = .ok (.baload, 1) := by decide +kernel
theorem d5_127 : decode method_4_code 127 = .ok (.sipush 255, 3) := by decide +kernel
theorem d5_130 : decode method_4_code 130 = .ok (.iand, 1) := by decide +kernel
theorem d5_131 : decode method_4_code 131 = .ok (.istore 8, 2) := by decide +kernel
theorem d5_133 : decode method_4_code 133 = .ok (.iload 8, 2) := by decide +kernel
theorem d5_135 : decode method_4_code 135 = .ok (.sipush 192, 3) := by decide +kernel
theorem d5_138 : decode method_4_code 138 = .ok (.iand, 1) := by decide +kernel
theorem d5_139 : decode method_4_code 139 = .ok (.sipush 128, 3) := by decide +kernel
theorem d5_142 : decode method_4_code 142 = .ok (.if_icmp .eq 5, 3) := by decide +kernel
theorem d5_145 : decode method_4_code 145 = .ok (.iconst 0, 1) := by decide +kernel
theorem d5_146 : decode method_4_code 146 = .ok (.ireturn, 1) := by decide +kernel
theorem d5_147 : decode method_4_code 147 = .ok (.iload 6, 2) := by decide +kernel
theorem d5_149 : decode method_4_code 149 = .ok (.bipush 6, 2) := by decide +kernel
theorem d5_151 : decode method_4_code 151 = .ok (.ishl, 1) := by decide +kernel
theorem d5_152 : decode method_4_code 152 = .ok (.iload 8, 2) := by decide +kernel
theorem d5_154 : decode method_4_code 154 = .ok (.bipush 63, 2) := by decide +kernel
theorem d5_156 : decode method_4_code 156 = .ok (.iand, 1) := by decide +kernel
theorem d5_157 : decode method_4_code 157 = .ok (.ior, 1) := by decide +kernel
theorem d5_158 : decode method_4_code 158 = .ok (.istore 6, 2) := by decide +kernel
theorem d5_160 : decode method_4_code 160 = .ok (.iload 5, 2) := by decide +kernel
theorem d5_162 : decode method_4_code 162 = .ok (.iconst 3, 1) := by decide +kernel
theorem d5_163 : decode method_4_code 163 = .ok (.if_icmp .lt 41, 3) := by decide +kernel
theorem d5_166 : decode method_4_code 166 = .ok (.aload_n 0, 1) := by decide +kernel
theorem d5_167 : decode method_4_code 167 = .ok (.iload_n 1, 1) := by decide +kernel
theorem d5_168 : decode method_4_code 168 = .ok (.iconst 2, 1) := by decide +kernel
theorem d5_169 : decode method_4_code 169 = .ok (.iadd, 1) := by decide +kernel
theorem d5_170 : decode method_4_code 170 = .ok (.baload, 1) := by decide +kernel
theorem d5_171 : decode method_4_code 171 = .ok (.sipush 255, 3) := by decide +kernel
theorem d5_174 : decode method_4_code 174 = .ok (.iand, 1) := by decide +kernel
theorem d5_175 : decode method_4_code 175 = .ok (.istore 9, 2) := by decide +kernel
theorem d5_177 : decode method_4_code 177 = .ok (.iload 9, 2) := by decide +kernel
theorem d5_179 : decode method_4_code 179 = .ok (.sipush 192, 3) := by decide +kernel
theorem d5_182 : decode method_4_code 182 = .ok (.iand, 1) := by decide +kernel
theorem d5_183 : decode method_4_code 183 = .ok (.sipush 128, 3) := by decide +kernel
theorem d5_186 : decode method_4_code 186 = .ok (.if_icmp .eq 5, 3) := by decide +kernel
theorem d5_189 : decode method_4_code 189 = .ok (.iconst 0, 1) := by decide +kernel
theorem d5_190 : decode method_4_code 190 = .ok (.ireturn, 1) := by decide +kernel
theorem d5_191 : decode method_4_code 191 = .ok (.iload 6, 2) := by decide +kernel
theorem d5_193 : decode method_4_code 193 = .ok (.bipush 6, 2) := by decide +kernel
theorem d5_195 : decode method_4_code 195 = .ok (.ishl, 1) := by decide +kernel
theorem d5_196 : decode method_4_code 196 = .ok (.iload 9, 2) := by decide +kernel
theorem d5_198 : decode method_4_code 198 = .ok (.bipush 63, 2) := by decide +kernel
theorem d5_200 : decode method_4_code 200 = .ok (.iand, 1) := by decide +kernel
theorem d5_201 : decode method_4_code 201 = .ok (.ior, 1) := by decide +kernel
theorem d5_202 : decode method_4_code 202 = .ok (.istore 6, 2) := by decide +kernel
theorem d5_204 : decode method_4_code 204 = .ok (.iload 5, 2) := by decide +kernel
theorem d5_206 : decode method_4_code 206 = .ok (.iconst 4, 1) := by decide +kernel
theorem d5_207 : decode method_4_code 207 = .ok (.if_icmp .ne 41, 3) := by decide +kernel
theorem d5_210 : decode method_4_code 210 = .ok (.aload_n 0, 1) := by decide +kernel
theorem d5_211 : decode method_4_code 211 = .ok (.iload_n 1, 1) := by decide +kernel
theorem d5_212 : decode method_4_code 212 = .ok (.iconst 3, 1) := by decide +kernel
theorem d5_213 : decode method_4_code 213 = .ok (.iadd, 1) := by decide +kernel
theorem d5_214 : decode method_4_code 214 = .ok (.baload, 1) := by decide +kernel
theorem d5_215 : decode method_4_code 215 = .ok (.sipush 255, 3) := by decide +kernel
theorem d5_218 : decode method_4_code 218 = .ok (.iand, 1) := by decide +kernel
theorem d5_219 : decode method_4_code 219 = .ok (.istore 9, 2) := by decide +kernel
theorem d5_221 : decode method_4_code 221 = .ok (.iload 9, 2) := by decide +kernel
theorem d5_223 : decode method_4_code 223 = .ok (.sipush 192, 3) := by decide +kernel
theorem d5_226 : decode method_4_code 226 = .ok (.iand, 1) := by decide +kernel
theorem d5_227 : decode method_4_code 227 = .ok (.sipush 128, 3) := by decide +kernel
theorem d5_230 : decode method_4_code 230 = .ok (.if_icmp .eq 5, 3) := by decide +kernel
theorem d5_233 : decode method_4_code 233 = .ok (.iconst 0, 1) := by decide +kernel
theorem d5_234 : decode method_4_code 234 = .ok (.ireturn, 1) := by decide +kernel
theorem d5_235 : decode method_4_code 235 = .ok (.iload 6, 2) := by decide +kernel
theorem d5_237 : decode method_4_code 237 = .ok (.bipush 6, 2) := by decide +kernel
theorem d5_239 : decode method_4_code 239 = .ok (.ishl, 1) := by decide +kernel
theorem d5_240 : decode method_4_code 240 = .ok (.iload 9, 2) := by decide +kernel
theorem d5_242 : decode method_4_code 242 = .ok (.bipush 63, 2) := by decide +kernel
theorem d5_244 : decode method_4_code 244 = .ok (.iand, 1) := by decide +kernel
theorem d5_245 : decode method_4_code 245 = .ok (.ior, 1) := by decide +kernel
theorem d5_246 : decode method_4_code 246 = .ok (.istore 6, 2) := by decide +kernel
theorem d5_248 : decode method_4_code 248 = .ok (.iload 6, 2) := by decide +kernel
theorem d5_250 : decode method_4_code 250 = .ok (.iload 7, 2) := by decide +kernel
theorem d5_252 : decode method_4_code 252 = .ok (.if_icmp .ge 5, 3) := by decide +kernel
theorem d5_255 : decode method_4_code 255 = .ok (.iconst 0, 1) := by decide +kernel
theorem d5_256 : decode method_4_code 256 = .ok (.ireturn, 1) := by decide +kernel
theorem d5_257 : decode method_4_code 257 = .ok (.iload 6, 2) := by decide +kernel
theorem d5_259 : decode method_4_code 259 = .ok (.ldc 23, 2) := by decide +kernel
theorem d5_261 : decode method_4_code 261 = .ok (.if_icmp .lt 12, 3) := by decide +kernel
theorem d5_264 : decode method_4_code 264 = .ok (.iload 6, 2) := by decide +kernel
theorem d5_266 : decode method_4_code 266 = .ok (.ldc 24, 2) := by decide +kernel
theorem d5_268 : decode method_4_code 268 = .ok (.if_icmp .gt 5, 3) := by decide +kernel
theorem d5_271 : decode method_4_code 271 = .ok (.iconst 0, 1) := by decide +kernel
theorem d5_272 : decode method_4_code 272 = .ok (.ireturn, 1) := by decide +kernel
theorem d5_273 : decode method_4_code 273 = .ok (.iload 6, 2) := by decide +kernel
theorem d5_275 : decode method_4_code 275 = .ok (.ldc 25, 2) := by decide +kernel
theorem d5_277 : decode method_4_code 277 = .ok (.if_icmp .le 5, 3) := by decide +kernel
theorem d5_280 : decode method_4_code 280 = .ok (.iconst 0, 1) := by decide +kernel
theorem d5_281 : decode method_4_code 281 = .ok (.ireturn, 1) := by decide +kernel
theorem d5_282 : decode method_4_code 282 = .ok (.iload 5, 2) := by decide +kernel
theorem d5_284 : decode method_4_code 284 = .ok (.ireturn, 1) := by decide +kernel
theorem own_ef8 (m : MethodId) (x0 : Addr) (x1 : Int32) (x2 : Int32) : entryFrame m #[(.ref x0), (.int x1), (.int x2)] 10 = mkF m 0 #[.val (.ref x0), .val (.int x1), .val (.int x2), .unset, .unset, .unset, .unset, .unset, .unset, .unset] [] := by first | (simp [entryFrame, mkF, argsToLocals, Value.category, maxLocals]; done) | rfl
def Qrm5 (Z : State) (a1 : Addr) (p2 : Int32) (p3 : Int32) (k1 : ClassId) (bs : List Int32) (h0 : Heap) (n0 : Nat) : Option Value → Heap → List Loc → Prop := fun v h L => v = some (.int (own_sq (own_c bs p2 0) (own_c bs p2 1) (own_c bs p2 2) (own_c bs p2 3) (p3 - p2))) ∧ Fr n0 L ∧ h = h0
set_option maxRecDepth 65536 in
set_option maxHeartbeats 40000000 in
theorem rm5 (l : Launch) (Z : State) (a0 : Array Value) (hw : ∀ d ∈ tables_1, d.before a0 Z = true) (ws : List Jvm.Cond) (a1 : Addr) (p2 : Int32) (p3 : Int32) (k1 : ClassId) (bs : List Int32) (h0 : Heap) (n0 : Nat) (Z0 : n0 ≤ h0.size) (V1 : Arv Z h0 a1 k1 .byte (6 : Int32) (bs.map Value.int) (.int 0)) (hi0 : 0 ≤ p2.toInt) (hft : p2.toInt < p3.toInt) (ht6 : p3.toInt ≤ 6) :
    MetFree l (⟨"com/example/slicewright/slicewright/runtime/Utf8WellFormedUpToPinLaw", "seq", "([BII)I"⟩ : MethodName) (head1 (Jvm.Cond.code (⟨"com/example/slicewright/slicewright/runtime/Utf8WellFormedUpToPinLaw", "seq", "([BII)I"⟩ : MethodName) method_4_code 10 (some .int) :: ws) ({ frames := 0, cells := 0, slots := 0, locals := 0 } : Room)) (fun a U => a = #[(.ref a1), (.int p2), (.int p3)] ∧ Z.Warmed39 U.vm ∧ U.heap = h0) (fun _ _ _ _ _ => True) (fun _ U o U' => ∃ v L, o = .returned v ∧ (Qrm5 Z a1 p2 p3 k1 bs h0 n0) v U'.heap L ∧ FrameEnd U o U' L ({ frames := 0, cells := 0, slots := 0, locals := 0 } : Room).cells ({ frames := 0, cells := 0, slots := 0, locals := 0 } : Room).slots) := by
  refine MetFree.of_bodySF own_pn4 hisR ?_
  intro p ev s m args below meth c s₁ Bd hml0 hP hK
  obtain ⟨rfl, hZ, hh⟩ := hP
  have hx := Bd.exec
  have hby := Bd.bytes
  have hlk := Bd.notSynchronized
  have hml : c.maxLocals = 10 := hml0
  have hown : s.vm.findClass "com/example/slicewright/slicewright/runtime/Utf8WellFormedUpToPinLaw" = some m.cls := findClass_of_methodNamed Bd.named
  have hnm := (name_of_methodNamed Bd.named Bd.method).1
  have X0 : Stand p l ev ({ frames := 0, cells := 0, slots := 0, locals := 0 } : Room) s m #[(.ref a1), (.int p2), (.int p3)] below meth c s₁ [] 0 0 := Stand.of_body Bd
  have e0 : s₁.heap = h0 := by rw [← hh, Bd.state]; rfl
  have N0 := Fr.nil n0
  refine Rch.entry (G := (EndQ (Qrm5 Z a1 p2 p3 k1 bs h0 n0) s ({ frames := 0, cells := 0, slots := 0, locals := 0 } : Room).cells ({ frames := 0, cells := 0, slots := 0, locals := 0 } : Room).slots)) (own_ef8 m a1 p2 p3) ?_
  show Rch p ev below _ s₁ (mkF m 0 #[.val (.ref a1), .val (.int p2), .val (.int p3), .unset, .unset, .unset, .unset, .unset, .unset, .unset] [])
  have hsb := c_isub p3 p2
  have hsr := rng32 (p3 - p2)
  refine Rch.go (fun _ q => XS.iloadN X0.here hx rfl (hb hby d5_0) rfl  q) ?_
  show Rch p ev below _ s₁ (mkF m 1 #[.val (.ref a1), .val (.int p2), .val (.int p3), .unset, .unset, .unset, .unset, .unset, .unset, .unset] [(.int p3)])
  refine Rch.go (fun _ q => XS.iloadN X0.here hx rfl (hb hby d5_1) rfl  q) ?_
  show Rch p ev below _ s₁ (mkF m 2 #[.val (.ref a1), .val (.int p2), .val (.int p3), .unset, .unset, .unset, .unset, .unset, .unset, .unset] [(.int p2), (.int p3)])
  refine Rch.go (fun _ q => XS.isub X0.here hx rfl (hb hby d5_2) rfl q) ?_
  show Rch p ev below _ s₁ (mkF m 3 #[.val (.ref a1), .val (.int p2), .val (.int p3), .unset, .unset, .unset, .unset, .unset, .unset, .unset] [(.int (p3 - p2))])
  refine Rch.go (fun _ q => XS.istoreN X0.here hx rfl (hb hby d5_3) rfl (l' := #[.val (.ref a1), .val (.int p2), .val (.int p3), .val (.int (p3 - p2)), .unset, .unset, .unset, .unset, .unset, .unset]) rfl q) ?_
  show Rch p ev below _ s₁ (mkF m 4 #[.val (.ref a1), .val (.int p2), .val (.int p3), .val (.int (p3 - p2)), .unset, .unset, .unset, .unset, .unset, .unset] [])
  refine Rch.go (fun _ q => XS.aloadN X0.here hx rfl (hb hby d5_4) rfl rfl q) ?_
  show Rch p ev below _ s₁ (mkF m 5 #[.val (.ref a1), .val (.int p2), .val (.int p3), .val (.int (p3 - p2)), .unset, .unset, .unset, .unset, .unset, .unset] [(.ref a1)])
  refine Rch.go (fun _ q => XS.iloadN X0.here hx rfl (hb hby d5_5) rfl  q) ?_
  show Rch p ev below _ s₁ (mkF m 6 #[.val (.ref a1), .val (.int p2), .val (.int p3), .val (.int (p3 - p2)), .unset, .unset, .unset, .unset, .unset, .unset] [(.int p2), (.ref a1)])
  refine Rch.go (fun _ q => ldB X0 hx hZ e0 V1 (j := p2) (v := (.int (bs.getD (p2.toNatClampNeg + 0) 0))) (own_j0 p2 hi0 (by omega)) (own_rd bs _) (g := (mkF m 6 #[.val (.ref a1), .val (.int p2), .val (.int p3), .val (.int (p3 - p2)), .unset, .unset, .unset, .unset, .unset, .unset] [(.int p2), (.ref a1)])) rfl rfl (hb hby d5_6) _ q) ?_
  show Rch p ev below _ s₁ (mkF m 7 #[.val (.ref a1), .val (.int p2), .val (.int p3), .val (.int (p3 - p2)), .unset, .unset, .unset, .unset, .unset, .unset] [(.int (bs.getD (p2.toNatClampNeg + 0) 0))])
  refine Rch.go (fun _ q => XS.sipush X0.here hx rfl (hb hby d5_7) q) ?_
  show Rch p ev below _ s₁ (mkF m 10 #[.val (.ref a1), .val (.int p2), .val (.int p3), .val (.int (p3 - p2)), .unset, .unset, .unset, .unset, .unset, .unset] [(.int (255 : Int32)), (.int (bs.getD (p2.toNatClampNeg + 0) 0))])
  refine Rch.go (fun _ q => XS.iand X0.here hx rfl (hb hby d5_10) rfl q) ?_
  show Rch p ev below _ s₁ (mkF m 11 #[.val (.ref a1), .val (.int p2), .val (.int p3), .val (.int (p3 - p2)), .unset, .unset, .unset, .unset, .unset, .unset] [(.int ((bs.getD (p2.toNatClampNeg + 0) 0) &&& (255 : Int32)))])
  refine Rch.go (fun _ q => XS.istore X0.here hx rfl (hb hby d5_11) rfl (l' := #[.val (.ref a1), .val (.int p2), .val (.int p3), .val (.int (p3 - p2)), .val (.int ((bs.getD (p2.toNatClampNeg + 0) 0) &&& (255 : Int32))), .unset, .unset, .unset, .unset, .unset]) rfl q) ?_
  show Rch p ev below _ s₁ (mkF m 13 #[.val (.ref a1), .val (.int p2), .val (.int p3), .val (.int (p3 - p2)), .val (.int ((bs.getD (p2.toNatClampNeg + 0) 0) &&& (255 : Int32))), .unset, .unset, .unset, .unset, .unset] [])
  show Rch p ev below _ s₁ (mkF m 13 #[.val (.ref a1), .val (.int p2), .val (.int p3), .val (.int (p3 - p2)), .val (.int (own_c bs p2 0)), .unset, .unset, .unset, .unset, .unset] [])
  refine Rch.go (fun _ q => XS.iload X0.here hx rfl (hb hby d5_13) rfl  q) ?_
  show Rch p ev below _ s₁ (mkF m 15 #[.val (.ref a1), .val (.int p2), .val (.int p3), .val (.int (p3 - p2)), .val (.int (own_c bs p2 0)), .unset, .unset, .unset, .unset, .unset] [(.int (own_c bs p2 0))])
  refine Rch.go (fun _ q => XS.sipush X0.here hx rfl (hb hby d5_15) q) ?_
  show Rch p ev below _ s₁ (mkF m 18 #[.val (.ref a1), .val (.int p2), .val (.int p3), .val (.int (p3 - p2)), .val (.int (own_c bs p2 0)), .unset, .unset, .unset, .unset, .unset] [(.int (128 : Int32)), (.int (own_c bs p2 0))])
  by_cases hc18 : (own_c bs p2 0) < (128 : Int32)
  · skip
    refine Rch.go (fun _ q => XS.icmpNo X0.here hx rfl (hb hby d5_18) rfl (tlt hc18).2.1 q) ?_
    show Rch p ev below _ s₁ (mkF m 21 #[.val (.ref a1), .val (.int p2), .val (.int p3), .val (.int (p3 - p2)), .val (.int (own_c bs p2 0)), .unset, .unset, .unset, .unset, .unset] [])
    refine Rch.go (fun _ q => XS.iconst X0.here hx rfl (hb hby d5_21) q) ?_
    show Rch p ev below _ s₁ (mkF m 22 #[.val (.ref a1), .val (.int p2), .val (.int p3), .val (.int (p3 - p2)), .val (.int (own_c bs p2 0)), .unset, .unset, .unset, .unset, .unset] [(.int (1 : Int32))])
    refine Rch.retI X0 hx hlk Bd.returns (hb hby d5_22) (by decide) (by decide) ?_
    unfold Qrm5
    exact ⟨by simp only [own_sq, own_sq2, own_sq3, own_sq4, own_chk, hc18, if_true, if_false], N0, e0⟩
  · skip
    refine Rch.go (fun _ q => XS.icmpYes X0.here hx rfl (pc0 := 18) (pc' := 23) rfl (hb hby d5_18) rfl (flt hc18).2.1 (by decide) (by decide) q) ?_
    show Rch p ev below _ s₁ (mkF m 23 #[.val (.ref a1), .val (.int p2), .val (.int p3), .val (.int (p3 - p2)), .val (.int (own_c bs p2 0)), .unset, .unset, .unset, .unset, .unset] [])
    refine Rch.go (fun _ q => XS.iload X0.here hx rfl (hb hby d5_23) rfl  q) ?_
    show Rch p ev below _ s₁ (mkF m 25 #[.val (.ref a1), .val (.int p2), .val (.int p3), .val (.int (p3 - p2)), .val (.int (own_c bs p2 0)), .unset, .unset, .unset, .unset, .unset] [(.int (own_c bs p2 0))])
    refine Rch.go (fun _ q => XS.sipush X0.here hx rfl (hb hby d5_25) q) ?_
    show Rch p ev below _ s₁ (mkF m 28 #[.val (.ref a1), .val (.int p2), .val (.int p3), .val (.int (p3 - p2)), .val (.int (own_c bs p2 0)), .unset, .unset, .unset, .unset, .unset] [(.int (224 : Int32)), (.int (own_c bs p2 0))])
    refine Rch.go (fun _ q => XS.iand X0.here hx rfl (hb hby d5_28) rfl q) ?_
    show Rch p ev below _ s₁ (mkF m 29 #[.val (.ref a1), .val (.int p2), .val (.int p3), .val (.int (p3 - p2)), .val (.int (own_c bs p2 0)), .unset, .unset, .unset, .unset, .unset] [(.int ((own_c bs p2 0) &&& (224 : Int32)))])
    refine Rch.go (fun _ q => XS.sipush X0.here hx rfl (hb hby d5_29) q) ?_
    show Rch p ev below _ s₁ (mkF m 32 #[.val (.ref a1), .val (.int p2), .val (.int p3), .val (.int (p3 - p2)), .val (.int (own_c bs p2 0)), .unset, .unset, .unset, .unset, .unset] [(.int (192 : Int32)), (.int ((own_c bs p2 0) &&& (224 : Int32)))])
    by_cases hc32 : ((own_c bs p2 0) &&& (224 : Int32)) = (192 : Int32)
    · skip
      refine Rch.go (fun _ q => XS.icmpNo X0.here hx rfl (hb hby d5_32) rfl (teq hc32).2 q) ?_
      show Rch p ev below _ s₁ (mkF m 35 #[.val (.ref a1), .val (.int p2), .val (.int p3), .val (.int (p3 - p2)), .val (.int (own_c bs p2 0)), .unset, .unset, .unset, .unset, .unset] [])
      refine Rch.go (fun _ q => XS.iconst X0.here hx rfl (hb hby d5_35) q) ?_
      show Rch p ev below _ s₁ (mkF m 36 #[.val (.ref a1), .val (.int p2), .val (.int p3), .val (.int (p3 - p2)), .val (.int (own_c bs p2 0)), .unset, .unset, .unset, .unset, .unset] [(.int (2 : Int32))])
      refine Rch.go (fun _ q => XS.istore X0.here hx rfl (hb hby d5_36) rfl (l' := #[.val (.ref a1), .val (.int p2), .val (.int p3), .val (.int (p3 - p2)), .val (.int (own_c bs p2 0)), .val (.int (2 : Int32)), .unset, .unset, .unset, .unset]) rfl q) ?_
      show Rch p ev below _ s₁ (mkF m 38 #[.val (.ref a1), .val (.int p2), .val (.int p3), .val (.int (p3 - p2)), .val (.int (own_c bs p2 0)), .val (.int (2 : Int32)), .unset, .unset, .unset, .unset] [])
      refine Rch.go (fun _ q => XS.iload X0.here hx rfl (hb hby d5_38) rfl  q) ?_
      show Rch p ev below _ s₁ (mkF m 40 #[.val (.ref a1), .val (.int p2), .val (.int p3), .val (.int (p3 - p2)), .val (.int (own_c bs p2 0)), .val (.int (2 : Int32)), .unset, .unset, .unset, .unset] [(.int (own_c bs p2 0))])
      refine Rch.go (fun _ q => XS.bipush X0.here hx rfl (hb hby d5_40) q) ?_
      show Rch p ev below _ s₁ (mkF m 42 #[.val (.ref a1), .val (.int p2), .val (.int p3), .val (.int (p3 - p2)), .val (.int (own_c bs p2 0)), .val (.int (2 : Int32)), .unset, .unset, .unset, .unset] [(.int (31 : Int32)), (.int (own_c bs p2 0))])
      refine Rch.go (fun _ q => XS.iand X0.here hx rfl (hb hby d5_42) rfl q) ?_
      show Rch p ev below _ s₁ (mkF m 43 #[.val (.ref a1), .val (.int p2), .val (.int p3), .val (.int (p3 - p2)), .val (.int (own_c bs p2 0)), .val (.int (2 : Int32)), .unset, .unset, .unset, .unset] [(.int ((own_c bs p2 0) &&& (31 : Int32)))])
      refine Rch.go (fun _ q => XS.istore X0.here hx rfl (hb hby d5_43) rfl (l' := #[.val (.ref a1), .val (.int p2), .val (.int p3), .val (.int (p3 - p2)), .val (.int (own_c bs p2 0)), .val (.int (2 : Int32)), .val (.int ((own_c bs p2 0) &&& (31 : Int32))), .unset, .unset, .unset]) rfl q) ?_
      show Rch p ev below _ s₁ (mkF m 45 #[.val (.ref a1), .val (.int p2), .val (.int p3), .val (.int (p3 - p2)), .val (.int (own_c bs p2 0)), .val (.int (2 : Int32)), .val (.int ((own_c bs p2 0) &&& (31 : Int32))), .unset, .unset, .unset] [])
      refine Rch.go (fun _ q => XS.sipush X0.here hx rfl (hb hby d5_45) q) ?_
      show Rch p ev below _ s₁ (mkF m 48 #[.val (.ref a1), .val (.int p2), .val (.int p3), .val (.int (p3 - p2)), .val (.int (own_c bs p2 0)), .val (.int (2 : Int32)), .val (.int ((own_c bs p2 0) &&& (31 : Int32))), .unset, .unset, .unset] [(.int (128 : Int32))])
      refine Rch.go (fun _ q => XS.istore X0.here hx rfl (hb hby d5_48) rfl (l' := #[.val (.ref a1), .val (.int p2), .val (.int p3), .val (.int (p3 - p2)), .val (.int (own_c bs p2 0)), .val (.int (2 : Int32)), .val (.int ((own_c bs p2 0) &&& (31 : Int32))), .val (.int (128 : Int32)), .unset, .unset]) rfl q) ?_
      show Rch p ev below _ s₁ (mkF m 50 #[.val (.ref a1), .val (.int p2), .val (.int p3), .val (.int (p3 - p2)), .val (.int (own_c bs p2 0)), .val (.int (2 : Int32)), .val (.int ((own_c bs p2 0) &&& (31 : Int32))), .val (.int (128 : Int32)), .unset, .unset] [])
      refine Rch.go (fun _ q => XS.goto X0.here hx rfl (pc0 := 50) (pc' := 114) rfl (hb hby d5_50) (by decide) (by decide) q) ?_
      show Rch p ev below _ s₁ (mkF m 114 #[.val (.ref a1), .val (.int p2), .val (.int p3), .val (.int (p3 - p2)), .val (.int (own_c bs p2 0)), .val (.int (2 : Int32)), .val (.int ((own_c bs p2 0) &&& (31 : Int32))), .val (.int (128 : Int32)), .unset, .unset] [])
      refine Rch.go (fun _ q => XS.iload X0.here hx rfl (hb hby d5_114) rfl  q) ?_
      show Rch p ev below _ s₁ (mkF m 116 #[.val (.ref a1), .val (.int p2), .val (.int p3), .val (.int (p3 - p2)), .val (.int (own_c bs p2 0)), .val (.int (2 : Int32)), .val (.int ((own_c bs p2 0) &&& (31 : Int32))), .val (.int (128 : Int32)), .unset, .unset] [(.int (2 : Int32))])
      refine Rch.go (fun _ q => XS.iloadN X0.here hx rfl (hb hby d5_116) rfl  q) ?_
      show Rch p ev below _ s₁ (mkF m 117 #[.val (.ref a1), .val (.int p2), .val (.int p3), .val (.int (p3 - p2)), .val (.int (own_c bs p2 0)), .val (.int (2 : Int32)), .val (.int ((own_c bs p2 0) &&& (31 : Int32))), .val (.int (128 : Int32)), .unset, .unset] [(.int (p3 - p2)), (.int (2 : Int32))])
      by_cases hc117 : (p3 - p2) < (2 : Int32)
      · skip
        refine Rch.go (fun _ q => XS.icmpNo X0.here hx rfl (hb hby d5_117) rfl (tlt hc117).2.2.2 q) ?_
        show Rch p ev below _ s₁ (mkF m 120 #[.val (.ref a1), .val (.int p2), .val (.int p3), .val (.int (p3 - p2)), .val (.int (own_c bs p2 0)), .val (.int (2 : Int32)), .val (.int ((own_c bs p2 0) &&& (31 : Int32))), .val (.int (128 : Int32)), .unset, .unset] [])
        refine Rch.go (fun _ q => XS.iconst X0.here hx rfl (hb hby d5_120) q) ?_
        show Rch p ev below _ s₁ (mkF m 121 #[.val (.ref a1), .val (.int p2), .val (.int p3), .val (.int (p3 - p2)), .val (.int (own_c bs p2 0)), .val (.int (2 : Int32)), .val (.int ((own_c bs p2 0) &&& (31 : Int32))), .val (.int (128 : Int32)), .unset, .unset] [(.int (0 : Int32))])
        refine Rch.retI X0 hx hlk Bd.returns (hb hby d5_121) (by decide) (by decide) ?_
        unfold Qrm5
        exact ⟨by simp only [own_sq, own_sq2, own_sq3, own_sq4, own_chk, hc18, hc32, hc117, if_true, if_false], N0, e0⟩
      · skip
        refine Rch.go (fun _ q => XS.icmpYes X0.here hx rfl (pc0 := 117) (pc' := 122) rfl (hb hby d5_117) rfl (flt hc117).2.2.2 (by decide) (by decide) q) ?_
        show Rch p ev below _ s₁ (mkF m 122 #[.val (.ref a1), .val (.int p2), .val (.int p3), .val (.int (p3 - p2)), .val (.int (own_c bs p2 0)), .val (.int (2 : Int32)), .val (.int ((own_c bs p2 0) &&& (31 : Int32))), .val (.int (128 : Int32)), .unset, .unset] [])
        have kn : (2 : Int32).toInt = 2 := rfl
        have hav : p2.toInt + 2 ≤ p3.toInt := by rw [Int32.lt_iff_toInt_lt] at hc117; omega
        refine Rch.go (fun _ q => XS.aloadN X0.here hx rfl (hb hby d5_122) rfl rfl q) ?_
        show Rch p ev below _ s₁ (mkF m 123 #[.val (.ref a1), .val (.int p2), .val (.int p3), .val (.int (p3 - p2)), .val (.int (own_c bs p2 0)), .val (.int (2 : Int32)), .val (.int ((own_c bs p2 0) &&& (31 : Int32))), .val (.int (128 : Int32)), .unset, .unset] [(.ref a1)])
        refine Rch.go (fun _ q => XS.iloadN X0.here hx rfl (hb hby d5_123) rfl  q) ?_
        show Rch p ev below _ s₁ (mkF m 124 #[.val (.ref a1), .val (.int p2), .val (.int p3), .val (.int (p3 - p2)), .val (.int (own_c bs p2 0)), .val (.int (2 : Int32)), .val (.int ((own_c bs p2 0) &&& (31 : Int32))), .val (.int (128 : Int32)), .unset, .unset] [(.int p2), (.ref a1)])
        refine Rch.go (fun _ q => XS.iconst X0.here hx rfl (hb hby d5_124) q) ?_
        show Rch p ev below _ s₁ (mkF m 125 #[.val (.ref a1), .val (.int p2), .val (.int p3), .val (.int (p3 - p2)), .val (.int (own_c bs p2 0)), .val (.int (2 : Int32)), .val (.int ((own_c bs p2 0) &&& (31 : Int32))), .val (.int (128 : Int32)), .unset, .unset] [(.int (1 : Int32)), (.int p2), (.ref a1)])
        refine Rch.go (fun _ q => XS.iadd X0.here hx rfl (hb hby d5_125) rfl q) ?_
        show Rch p ev below _ s₁ (mkF m 126 #[.val (.ref a1), .val (.int p2), .val (.int p3), .val (.int (p3 - p2)), .val (.int (own_c bs p2 0)), .val (.int (2 : Int32)), .val (.int ((own_c bs p2 0) &&& (31 : Int32))), .val (.int (128 : Int32)), .unset, .unset] [(.int (p2 + (1 : Int32))), (.ref a1)])
        refine Rch.go (fun _ q => ldB X0 hx hZ e0 V1 (j := (p2 + (1 : Int32))) (v := (.int (bs.getD (p2.toNatClampNeg + 1) 0))) (own_jk p2 (1 : Int32) 1 rfl hi0 (by omega)).1 (by rw [(own_jk p2 (1 : Int32) 1 rfl hi0 (by omega)).2]; exact own_rd bs _) (g := (mkF m 126 #[.val (.ref a1), .val (.int p2), .val (.int p3), .val (.int (p3 - p2)), .val (.int (own_c bs p2 0)), .val (.int (2 : Int32)), .val (.int ((own_c bs p2 0) &&& (31 : Int32))), .val (.int (128 : Int32)), .unset, .unset] [(.int (p2 + (1 : Int32))), (.ref a1)])) rfl rfl (hb hby d5_126) _ q) ?_
        show Rch p ev below _ s₁ (mkF m 127 #[.val (.ref a1), .val (.int p2), .val (.int p3), .val (.int (p3 - p2)), .val (.int (own_c bs p2 0)), .val (.int (2 : Int32)), .val (.int ((own_c bs p2 0) &&& (31 : Int32))), .val (.int (128 : Int32)), .unset, .unset] [(.int (bs.getD (p2.toNatClampNeg + 1) 0))])
        refine Rch.go (fun _ q => XS.sipush X0.here hx rfl (hb hby d5_127) q) ?_
        show Rch p ev below _ s₁ (mkF m 130 #[.val (.ref a1), .val (.int p2), .val (.int p3), .val (.int (p3 - p2)), .val (.int (own_c bs p2 0)), .val (.int (2 : Int32)), .val (.int ((own_c bs p2 0) &&& (31 : Int32))), .val (.int (128 : Int32)), .unset, .unset] [(.int (255 : Int32)), (.int (bs.getD (p2.toNatClampNeg + 1) 0))])
        refine Rch.go (fun _ q => XS.iand X0.here hx rfl (hb hby d5_130) rfl q) ?_
        show Rch p ev below _ s₁ (mkF m 131 #[.val (.ref a1), .val (.int p2), .val (.int p3), .val (.int (p3 - p2)), .val (.int (own_c bs p2 0)), .val (.int (2 : Int32)), .val (.int ((own_c bs p2 0) &&& (31 : Int32))), .val (.int (128 : Int32)), .unset, .unset] [(.int ((bs.getD (p2.toNatClampNeg + 1) 0) &&& (255 : Int32)))])
        refine Rch.go (fun _ q => XS.istore X0.here hx rfl (hb hby d5_131) rfl (l' := #[.val (.ref a1), .val (.int p2), .val (.int p3), .val (.int (p3 - p2)), .val (.int (own_c bs p2 0)), .val (.int (2 : Int32)), .val (.int ((own_c bs p2 0) &&& (31 : Int32))), .val (.int (128 : Int32)), .val (.int ((bs.getD (p2.toNatClampNeg + 1) 0) &&& (255 : Int32))), .unset]) rfl q) ?_
        show Rch p ev below _ s₁ (mkF m 133 #[.val (.ref a1), .val (.int p2), .val (.int p3), .val (.int (p3 - p2)), .val (.int (own_c bs p2 0)), .val (.int (2 : Int32)), .val (.int ((own_c bs p2 0) &&& (31 : Int32))), .val (.int (128 : Int32)), .val (.int ((bs.getD (p2.toNatClampNeg + 1) 0) &&& (255 : Int32))), .unset] [])
        show Rch p ev below _ s₁ (mkF m 133 #[.val (.ref a1), .val (.int p2), .val (.int p3), .val (.int (p3 - p2)), .val (.int (own_c bs p2 0)), .val (.int (2 : Int32)), .val (.int ((own_c bs p2 0) &&& (31 : Int32))), .val (.int (128 : Int32)), .val (.int (own_c bs p2 1)), .unset] [])
        refine Rch.go (fun _ q => XS.iload X0.here hx rfl (hb hby d5_133) rfl  q) ?_
        show Rch p ev below _ s₁ (mkF m 135 #[.val (.ref a1), .val (.int p2), .val (.int p3), .val (.int (p3 - p2)), .val (.int (own_c bs p2 0)), .val (.int (2 : Int32)), .val (.int ((own_c bs p2 0) &&& (31 : Int32))), .val (.int (128 : Int32)), .val (.int (own_c bs p2 1)), .unset] [(.int (own_c bs p2 1))])
        refine Rch.go (fun _ q => XS.sipush X0.here hx rfl (hb hby d5_135) q) ?_
        show Rch p ev below _ s₁ (mkF m 138 #[.val (.ref a1), .val (.int p2), .val (.int p3), .val (.int (p3 - p2)), .val (.int (own_c bs p2 0)), .val (.int (2 : Int32)), .val (.int ((own_c bs p2 0) &&& (31 : Int32))), .val (.int (128 : Int32)), .val (.int (own_c bs p2 1)), .unset] [(.int (192 : Int32)), (.int (own_c bs p2 1))])
        refine Rch.go (fun _ q => XS.iand X0.here hx rfl (hb hby d5_138) rfl q) ?_
        show Rch p ev below _ s₁ (mkF m 139 #[.val (.ref a1), .val (.int p2), .val (.int p3), .val (.int (p3 - p2)), .val (.int (own_c bs p2 0)), .val (.int (2 : Int32)), .val (.int ((own_c bs p2 0) &&& (31 : Int32))), .val (.int (128 : Int32)), .val (.int (own_c bs p2 1)), .unset] [(.int ((own_c bs p2 1) &&& (192 : Int32)))])
        refine Rch.go (fun _ q => XS.sipush X0.here hx rfl (hb hby d5_139) q) ?_
        show Rch p ev below _ s₁ (mkF m 142 #[.val (.ref a1), .val (.int p2), .val (.int p3), .val (.int (p3 - p2)), .val (.int (own_c bs p2 0)), .val (.int (2 : Int32)), .val (.int ((own_c bs p2 0) &&& (31 : Int32))), .val (.int (128 : Int32)), .val (.int (own_c bs p2 1)), .unset] [(.int (128 : Int32)), (.int ((own_c bs p2 1) &&& (192 : Int32)))])
        by_cases hc142 : ((own_c bs p2 1) &&& (192 : Int32)) = (128 : Int32)
        · skip
          refine Rch.go (fun _ q => XS.icmpYes X0.here hx rfl (pc0 := 142) (pc' := 147) rfl (hb hby d5_142) rfl (teq hc142).1 (by decide) (by decide) q) ?_
          show Rch p ev below _ s₁ (mkF m 147 #[.val (.ref a1), .val (.int p2), .val (.int p3), .val (.int (p3 - p2)), .val (.int (own_c bs p2 0)), .val (.int (2 : Int32)), .val (.int ((own_c bs p2 0) &&& (31 : Int32))), .val (.int (128 : Int32)), .val (.int (own_c bs p2 1)), .unset] [])
          refine Rch.go (fun _ q => XS.iload X0.here hx rfl (hb hby d5_147) rfl  q) ?_
          show Rch p ev below _ s₁ (mkF m 149 #[.val (.ref a1), .val (.int p2), .val (.int p3), .val (.int (p3 - p2)), .val (.int (own_c bs p2 0)), .val (.int (2 : Int32)), .val (.int ((own_c bs p2 0) &&& (31 : Int32))), .val (.int (128 : Int32)), .val (.int (own_c bs p2 1)), .unset] [(.int ((own_c bs p2 0) &&& (31 : Int32)))])
          refine Rch.go (fun _ q => XS.bipush X0.here hx rfl (hb hby d5_149) q) ?_
          show Rch p ev below _ s₁ (mkF m 151 #[.val (.ref a1), .val (.int p2), .val (.int p3), .val (.int (p3 - p2)), .val (.int (own_c bs p2 0)), .val (.int (2 : Int32)), .val (.int ((own_c bs p2 0) &&& (31 : Int32))), .val (.int (128 : Int32)), .val (.int (own_c bs p2 1)), .unset] [(.int (6 : Int32)), (.int ((own_c bs p2 0) &&& (31 : Int32)))])
          refine Rch.go (fun _ q => XS.ishl X0.here hx rfl (hb hby d5_151) rfl q) ?_
          show Rch p ev below _ s₁ (mkF m 152 #[.val (.ref a1), .val (.int p2), .val (.int p3), .val (.int (p3 - p2)), .val (.int (own_c bs p2 0)), .val (.int (2 : Int32)), .val (.int ((own_c bs p2 0) &&& (31 : Int32))), .val (.int (128 : Int32)), .val (.int (own_c bs p2 1)), .unset] [(.int (((own_c bs p2 0) &&& (31 : Int32)) <<< ((6 : Int32) &&& 31)))])
          refine Rch.go (fun _ q => XS.iload X0.here hx rfl (hb hby d5_152) rfl  q) ?_
          show Rch p ev below _ s₁ (mkF m 154 #[.val (.ref a1), .val (.int p2), .val (.int p3), .val (.int (p3 - p2)), .val (.int (own_c bs p2 0)), .val (.int (2 : Int32)), .val (.int ((own_c bs p2 0) &&& (31 : Int32))), .val (.int (128 : Int32)), .val (.int (own_c bs p2 1)), .unset] [(.int (own_c bs p2 1)), (.int (((own_c bs p2 0) &&& (31 : Int32)) <<< ((6 : Int32) &&& 31)))])
          refine Rch.go (fun _ q => XS.bipush X0.here hx rfl (hb hby d5_154) q) ?_
          show Rch p ev below _ s₁ (mkF m 156 #[.val (.ref a1), .val (.int p2), .val (.int p3), .val (.int (p3 - p2)), .val (.int (own_c bs p2 0)), .val (.int (2 : Int32)), .val (.int ((own_c bs p2 0) &&& (31 : Int32))), .val (.int (128 : Int32)), .val (.int (own_c bs p2 1)), .unset] [(.int (63 : Int32)), (.int (own_c bs p2 1)), (.int (((own_c bs p2 0) &&& (31 : Int32)) <<< ((6 : Int32) &&& 31)))])
          refine Rch.go (fun _ q => XS.iand X0.here hx rfl (hb hby d5_156) rfl q) ?_
          show Rch p ev below _ s₁ (mkF m 157 #[.val (.ref a1), .val (.int p2), .val (.int p3), .val (.int (p3 - p2)), .val (.int (own_c bs p2 0)), .val (.int (2 : Int32)), .val (.int ((own_c bs p2 0) &&& (31 : Int32))), .val (.int (128 : Int32)), .val (.int (own_c bs p2 1)), .unset] [(.int ((own_c bs p2 1) &&& (63 : Int32))), (.int (((own_c bs p2 0) &&& (31 : Int32)) <<< ((6 : Int32) &&& 31)))])
          refine Rch.go (fun _ q => XS.ior X0.here hx rfl (hb hby d5_157) rfl q) ?_
          show Rch p ev below _ s₁ (mkF m 158 #[.val (.ref a1), .val (.int p2), .val (.int p3), .val (.int (p3 - p2)), .val (.int (own_c bs p2 0)), .val (.int (2 : Int32)), .val (.int ((own_c bs p2 0) &&& (31 : Int32))), .val (.int (128 : Int32)), .val (.int (own_c bs p2 1)), .unset] [(.int ((((own_c bs p2 0) &&& (31 : Int32)) <<< ((6 : Int32) &&& 31)) ||| ((own_c bs p2 1) &&& (63 : Int32))))])
          refine Rch.go (fun _ q => XS.istore X0.here hx rfl (hb hby d5_158) rfl (l' := #[.val (.ref a1), .val (.int p2), .val (.int p3), .val (.int (p3 - p2)), .val (.int (own_c bs p2 0)), .val (.int (2 : Int32)), .val (.int ((((own_c bs p2 0) &&& (31 : Int32)) <<< ((6 : Int32) &&& 31)) ||| ((own_c bs p2 1) &&& (63 : Int32)))), .val (.int (128 : Int32)), .val (.int (own_c bs p2 1)), .unset]) rfl q) ?_
          show Rch p ev below _ s₁ (mkF m 160 #[.val (.ref a1), .val (.int p2), .val (.int p3), .val (.int (p3 - p2)), .val (.int (own_c bs p2 0)), .val (.int (2 : Int32)), .val (.int ((((own_c bs p2 0) &&& (31 : Int32)) <<< ((6 : Int32) &&& 31)) ||| ((own_c bs p2 1) &&& (63 : Int32)))), .val (.int (128 : Int32)), .val (.int (own_c bs p2 1)), .unset] [])
          show Rch p ev below _ s₁ (mkF m 160 #[.val (.ref a1), .val (.int p2), .val (.int p3), .val (.int (p3 - p2)), .val (.int (own_c bs p2 0)), .val (.int (2 : Int32)), .val (.int (own_cp (own_c bs p2 0 &&& (31 : Int32)) (own_c bs p2 1))), .val (.int (128 : Int32)), .val (.int (own_c bs p2 1)), .unset] [])
          refine Rch.go (fun _ q => XS.iload X0.here hx rfl (hb hby d5_160) rfl  q) ?_
          show Rch p ev below _ s₁ (mkF m 162 #[.val (.ref a1), .val (.int p2), .val (.int p3), .val (.int (p3 - p2)), .val (.int (own_c bs p2 0)), .val (.int (2 : Int32)), .val (.int (own_cp (own_c bs p2 0 &&& (31 : Int32)) (own_c bs p2 1))), .val (.int (128 : Int32)), .val (.int (own_c bs p2 1)), .unset] [(.int (2 : Int32))])
          refine Rch.go (fun _ q => XS.iconst X0.here hx rfl (hb hby d5_162) q) ?_
          show Rch p ev below _ s₁ (mkF m 163 #[.val (.ref a1), .val (.int p2), .val (.int p3), .val (.int (p3 - p2)), .val (.int (own_c bs p2 0)), .val (.int (2 : Int32)), .val (.int (own_cp (own_c bs p2 0 &&& (31 : Int32)) (own_c bs p2 1))), .val (.int (128 : Int32)), .val (.int (own_c bs p2 1)), .unset] [(.int (3 : Int32)), (.int (2 : Int32))])
          refine Rch.go (fun _ q => XS.icmpYes X0.here hx rfl (pc0 := 163) (pc' := 204) rfl (hb hby d5_163) rfl (tlt (by decide)).1 (by decide) (by decide) q) ?_
          show Rch p ev below _ s₁ (mkF m 204 #[.val (.ref a1), .val (.int p2), .val (.int p3), .val (.int (p3 - p2)), .val (.int (own_c bs p2 0)), .val (.int (2 : Int32)), .val (.int (own_cp (own_c bs p2 0 &&& (31 : Int32)) (own_c bs p2 1))), .val (.int (128 : Int32)), .val (.int (own_c bs p2 1)), .unset] [])
          refine Rch.go (fun _ q => XS.iload X0.here hx rfl (hb hby d5_204) rfl  q) ?_
          show Rch p ev below _ s₁ (mkF m 206 #[.val (.ref a1), .val (.int p2), .val (.int p3), .val (.int (p3 - p2)), .val (.int (own_c bs p2 0)), .val (.int (2 : Int32)), .val (.int (own_cp (own_c bs p2 0 &&& (31 : Int32)) (own_c bs p2 1))), .val (.int (128 : Int32)), .val (.int (own_c bs p2 1)), .unset] [(.int (2 : Int32))])
          refine Rch.go (fun _ q => XS.iconst X0.here hx rfl (hb hby d5_206) q) ?_
          show Rch p ev below _ s₁ (mkF m 207 #[.val (.ref a1), .val (.int p2), .val (.int p3), .val (.int (p3 - p2)), .val (.int (own_c bs p2 0)), .val (.int (2 : Int32)), .val (.int (own_cp (own_c bs p2 0 &&& (31 : Int32)) (own_c bs p2 1))), .val (.int (128 : Int32)), .val (.int (own_c bs p2 1)), .unset] [(.int (4 : Int32)), (.int (2 : Int32))])
          refine Rch.go (fun _ q => XS.icmpYes X0.here hx rfl (pc0 := 207) (pc' := 248) rfl (hb hby d5_207) rfl (feq (by decide)).2 (by decide) (by decide) q) ?_
          show Rch p ev below _ s₁ (mkF m 248 #[.val (.ref a1), .val (.int p2), .val (.int p3), .val (.int (p3 - p2)), .val (.int (own_c bs p2 0)), .val (.int (2 : Int32)), .val (.int (own_cp (own_c bs p2 0 &&& (31 : Int32)) (own_c bs p2 1))), .val (.int (128 : Int32)), .val (.int (own_c bs p2 1)), .unset] [])
          refine Rch.go (fun _ q => XS.iload X0.here hx rfl (hb hby d5_248) rfl  q) ?_
          show Rch p ev below _ s₁ (mkF m 250 #[.val (.ref a1), .val (.int p2), .val (.int p3), .val (.int (p3 - p2)), .val (.int (own_c bs p2 0)), .val (.int (2 : Int32)), .val (.int (own_cp (own_c bs p2 0 &&& (31 : Int32)) (own_c bs p2 1))), .val (.int (128 : Int32)), .val (.int (own_c bs p2 1)), .unset] [(.int (own_cp (own_c bs p2 0 &&& (31 : Int32)) (own_c bs p2 1)))])
          refine Rch.go (fun _ q => XS.iload X0.here hx rfl (hb hby d5_250) rfl  q) ?_
          show Rch p ev below _ s₁ (mkF m 252 #[.val (.ref a1), .val (.int p2), .val (.int p3), .val (.int (p3 - p2)), .val (.int (own_c bs p2 0)), .val (.int (2 : Int32)), .val (.int (own_cp (own_c bs p2 0 &&& (31 : Int32)) (own_c bs p2 1))), .val (.int (128 : Int32)), .val (.int (own_c bs p2 1)), .unset] [(.int (128 : Int32)), (.int (own_cp (own_c bs p2 0 &&& (31 : Int32)) (own_c bs p2 1)))])
          by_cases hc252 : (own_cp (own_c bs p2 0 &&& (31 : Int32)) (own_c bs p2 1)) < (128 : Int32)
          · skip
            refine Rch.go (fun _ q => XS.icmpNo X0.here hx rfl (hb hby d5_252) rfl (tlt hc252).2.1 q) ?_
            show Rch p ev below _ s₁ (mkF m 255 #[.val (.ref a1), .val (.int p2), .val (.int p3), .val (.int (p3 - p2)), .val (.int (own_c bs p2 0)), .val (.int (2 : Int32)), .val (.int (own_cp (own_c bs p2 0 &&& (31 : Int32)) (own_c bs p2 1))), .val (.int (128 : Int32)), .val (.int (own_c bs p2 1)), .unset] [])
            refine Rch.go (fun _ q => XS.iconst X0.here hx rfl (hb hby d5_255) q) ?_
            show Rch p ev below _ s₁ (mkF m 256 #[.val (.ref a1), .val (.int p2), .val (.int p3), .val (.int (p3 - p2)), .val (.int (own_c bs p2 0)), .val (.int (2 : Int32)), .val (.int (own_cp (own_c bs p2 0 &&& (31 : Int32)) (own_c bs p2 1))), .val (.int (128 : Int32)), .val (.int (own_c bs p2 1)), .unset] [(.int (0 : Int32))])
            refine Rch.retI X0 hx hlk Bd.returns (hb hby d5_256) (by decide) (by decide) ?_
            unfold Qrm5
            exact ⟨by simp only [own_sq, own_sq2, own_sq3, own_sq4, own_chk, hc18, hc32, hc117, hc142, hc252, if_true, if_false], N0, e0⟩
          · skip
            refine Rch.go (fun _ q => XS.icmpYes X0.here hx rfl (pc0 := 252) (pc' := 257) rfl (hb hby d5_252) rfl (flt hc252).2.1 (by decide) (by decide) q) ?_
            show Rch p ev below _ s₁ (mkF m 257 #[.val (.ref a1), .val (.int p2), .val (.int p3), .val (.int (p3 - p2)), .val (.int (own_c bs p2 0)), .val (.int (2 : Int32)), .val (.int (own_cp (own_c bs p2 0 &&& (31 : Int32)) (own_c bs p2 1))), .val (.int (128 : Int32)), .val (.int (own_c bs p2 1)), .unset] [])
            refine Rch.go (fun _ q => XS.iload X0.here hx rfl (hb hby d5_257) rfl  q) ?_
            show Rch p ev below _ s₁ (mkF m 259 #[.val (.ref a1), .val (.int p2), .val (.int p3), .val (.int (p3 - p2)), .val (.int (own_c bs p2 0)), .val (.int (2 : Int32)), .val (.int (own_cp (own_c bs p2 0 &&& (31 : Int32)) (own_c bs p2 1))), .val (.int (128 : Int32)), .val (.int (own_c bs p2 1)), .unset] [(.int (own_cp (own_c bs p2 0 &&& (31 : Int32)) (own_c bs p2 1)))])
            refine Rch.go (fun _ q => X0.ldcI hx (own := "com/example/slicewright/slicewright/runtime/Utf8WellFormedUpToPinLaw") hown (mvT hZ (hw _ (List.mem_of_getElem? (i := 22) rfl))) rfl (hb hby d5_259) q) ?_
            show Rch p ev below _ s₁ (mkF m 261 #[.val (.ref a1), .val (.int p2), .val (.int p3), .val (.int (p3 - p2)), .val (.int (own_c bs p2 0)), .val (.int (2 : Int32)), .val (.int (own_cp (own_c bs p2 0 &&& (31 : Int32)) (own_c bs p2 1))), .val (.int (128 : Int32)), .val (.int (own_c bs p2 1)), .unset] [(.int (55296 : Int32)), (.int (own_cp (own_c bs p2 0 &&& (31 : Int32)) (own_c bs p2 1)))])
            by_cases hc261 : (own_cp (own_c bs p2 0 &&& (31 : Int32)) (own_c bs p2 1)) < (55296 : Int32)
            · skip
              refine Rch.go (fun _ q => XS.icmpYes X0.here hx rfl (pc0 := 261) (pc' := 273) rfl (hb hby d5_261) rfl (tlt hc261).1 (by decide) (by decide) q) ?_
              show Rch p ev below _ s₁ (mkF m 273 #[.val (.ref a1), .val (.int p2), .val (.int p3), .val (.int (p3 - p2)), .val (.int (own_c bs p2 0)), .val (.int (2 : Int32)), .val (.int (own_cp (own_c bs p2 0 &&& (31 : Int32)) (own_c bs p2 1))), .val (.int (128 : Int32)), .val (.int (own_c bs p2 1)), .unset] [])
              refine Rch.go (fun _ q => XS.iload X0.here hx rfl (hb hby d5_273) rfl  q) ?_
              show Rch p ev below _ s₁ (mkF m 275 #[.val (.ref a1), .val (.int p2), .val (.int p3), .val (.int (p3 - p2)), .val (.int (own_c bs p2 0)), .val (.int (2 : Int32)), .val (.int (own_cp (own_c bs p2 0 &&& (31 : Int32)) (own_c bs p2 1))), .val (.int (128 : Int32)), .val (.int (own_c bs p2 1)), .unset] [(.int (own_cp (own_c bs p2 0 &&& (31 : Int32)) (own_c bs p2 1)))])
              refine Rch.go (fun _ q => X0.ldcI hx (own := "com/example/slicewright/slicewright/runtime/Utf8WellFormedUpToPinLaw") hown (mvT hZ (hw _ (List.mem_of_getElem? (i := 23) rfl))) rfl (hb hby d5_275) q) ?_
              show Rch p ev below _ s₁ (mkF m 277 #[.val (.ref a1), .val (.int p2), .val (.int p3), .val (.int (p3 - p2)), .val (.int (own_c bs p2 0)), .val (.int (2 : Int32)), .val (.int (own_cp (own_c bs p2 0 &&& (31 : Int32)) (own_c bs p2 1))), .val (.int (128 : Int32)), .val (.int (own_c bs p2 1)), .unset] [(.int (1114111 : Int32)), (.int (own_cp (own_c bs p2 0 &&& (31 : Int32)) (own_c bs p2 1)))])
              by_cases hc277 : (1114111 : Int32) < (own_cp (own_c bs p2 0 &&& (31 : Int32)) (own_c bs p2 1))
              · skip
                refine Rch.go (fun _ q => XS.icmpNo X0.here hx rfl (hb hby d5_277) rfl (tlt hc277).2.2.2 q) ?_
                show Rch p ev below _ s₁ (mkF m 280 #[.val (.ref a1), .val (.int p2), .val (.int p3), .val (.int (p3 - p2)), .val (.int (own_c bs p2 0)), .val (.int (2 : Int32)), .val (.int (own_cp (own_c bs p2 0 &&& (31 : Int32)) (own_c bs p2 1))), .val (.int (128 : Int32)), .val (.int (own_c bs p2 1)), .unset] [])
                refine Rch.go (fun _ q => XS.iconst X0.here hx rfl (hb hby d5_280) q) ?_
                show Rch p ev below _ s₁ (mkF m 281 #[.val (.ref a1), .val (.int p2), .val (.int p3), .val (.int (p3 - p2)), .val (.int (own_c bs p2 0)), .val (.int (2 : Int32)), .val (.int (own_cp (own_c bs p2 0 &&& (31 : Int32)) (own_c bs p2 1))), .val (.int (128 : Int32)), .val (.int (own_c bs p2 1)), .unset] [(.int (0 : Int32))])
                refine Rch.retI X0 hx hlk Bd.returns (hb hby d5_281) (by decide) (by decide) ?_
                unfold Qrm5
                exact ⟨by simp only [own_sq, own_sq2, own_sq3, own_sq4, own_chk, hc18, hc32, hc117, hc142, hc252, hc261, hc277, if_true, if_false], N0, e0⟩
              · skip
                refine Rch.go (fun _ q => XS.icmpYes X0.here hx rfl (pc0 := 277) (pc' := 282) rfl (hb hby d5_277) rfl (flt hc277).2.2.2 (by decide) (by decide) q) ?_
                show Rch p ev below _ s₁ (mkF m 282 #[.val (.ref a1), .val (.int p2), .val (.int p3), .val (.int (p3 - p2)), .val (.int (own_c bs p2 0)), .val (.int (2 : Int32)), .val (.int (own_cp (own_c bs p2 0 &&& (31 : Int32)) (own_c bs p2 1))), .val (.int (128 : Int32)), .val (.int (own_c bs p2 1)), .unset] [])
                refine Rch.go (fun _ q => XS.iload X0.here hx rfl (hb hby d5_282) rfl  q) ?_
                show Rch p ev below _ s₁ (mkF m 284 #[.val (.ref a1), .val (.int p2), .val (.int p3), .val (.int (p3 - p2)), .val (.int (own_c bs p2 0)), .val (.int (2 : Int32)), .val (.int (own_cp (own_c bs p2 0 &&& (31 : Int32)) (own_c bs p2 1))), .val (.int (128 : Int32)), .val (.int (own_c bs p2 1)), .unset] [(.int (2 : Int32))])
                refine Rch.retI X0 hx hlk Bd.returns (hb hby d5_284) (by decide) (by decide) ?_
                unfold Qrm5
                exact ⟨by simp only [own_sq, own_sq2, own_sq3, own_sq4, own_chk, hc18, hc32, hc117, hc142, hc252, hc261, hc277, if_true, if_false], N0, e0⟩
            · skip
              refine Rch.go (fun _ q => XS.icmpNo X0.here hx rfl (hb hby d5_261) rfl (flt hc261).1 q) ?_
              show Rch p ev below _ s₁ (mkF m 264 #[.val (.ref a1), .val (.int p2), .val (.int p3), .val (.int (p3 - p2)), .val (.int (own_c bs p2 0)), .val (.int (2 : Int32)), .val (.int (own_cp (own_c bs p2 0 &&& (31 : Int32)) (own_c bs p2 1))), .val (.int (128 : Int32)), .val (.int (own_c bs p2 1)), .unset] [])
              refine Rch.go (fun _ q => XS.iload X0.here hx rfl (hb hby d5_264) rfl  q) ?_
              show Rch p ev below _ s₁ (mkF m 266 #[.val (.ref a1), .val (.int p2), .val (.int p3), .val (.int (p3 - p2)), .val (.int (own_c bs p2 0)), .val (.int (2 : Int32)), .val (.int (own_cp (own_c bs p2 0 &&& (31 : Int32)) (own_c bs p2 1))), .val (.int (128 : Int32)), .val (.int (own_c bs p2 1)), .unset] [(.int (own_cp (own_c bs p2 0 &&& (31 : Int32)) (own_c bs p2 1)))])
              refine Rch.go (fun _ q => X0.ldcI hx (own := "com/example/slicewright/slicewright/runtime/Utf8WellFormedUpToPinLaw") hown (mvT hZ (hw _ (List.mem_of_getElem? (i := 25) rfl))) rfl (hb hby d5_266) q) ?_
              show Rch p ev below _ s₁ (mkF m 268 #[.val (.ref a1), .val (.int p2), .val (.int p3), .val (.int (p3 - p2)), .val (.int (own_c bs p2 0)), .val (.int (2 : Int32)), .val (.int (own_cp (own_c bs p2 0 &&& (31 : Int32)) (own_c bs p2 1))), .val (.int (128 : Int32)), .val (.int (own_c bs p2 1)), .unset] [(.int (57343 : Int32)), (.int (own_cp (own_c bs p2 0 &&& (31 : Int32)) (own_c bs p2 1)))])
              by_cases hc268 : (57343 : Int32) < (own_cp (own_c bs p2 0 &&& (31 : Int32)) (own_c bs p2 1))
              · skip
                refine Rch.go (fun _ q => XS.icmpYes X0.here hx rfl (pc0 := 268) (pc' := 273) rfl (hb hby d5_268) rfl (tlt hc268).2.2.1 (by decide) (by decide) q) ?_
                show Rch p ev below _ s₁ (mkF m 273 #[.val (.ref a1), .val (.int p2), .val (.int p3), .val (.int (p3 - p2)), .val (.int (own_c bs p2 0)), .val (.int (2 : Int32)), .val (.int (own_cp (own_c bs p2 0 &&& (31 : Int32)) (own_c bs p2 1))), .val (.int (128 : Int32)), .val (.int (own_c bs p2 1)), .unset] [])
                refine Rch.go (fun _ q => XS.iload X0.here hx rfl (hb hby d5_273) rfl  q) ?_
                show Rch p ev below _ s₁ (mkF m 275 #[.val (.ref a1), .val (.int p2), .val (.int p3), .val (.int (p3 - p2)), .val (.int (own_c bs p2 0)), .val (.int (2 : Int32)), .val (.int (own_cp (own_c bs p2 0 &&& (31 : Int32)) (own_c bs p2 1))), .val (.int (128 : Int32)), .val (.int (own_c bs p2 1)), .unset] [(.int (own_cp (own_c bs p2 0 &&& (31 : Int32)) (own_c bs p2 1)))])
                refine Rch.go (fun _ q => X0.ldcI hx (own := "com/example/slicewright/slicewright/runtime/Utf8WellFormedUpToPinLaw") hown (mvT hZ (hw _ (List.mem_of_getElem? (i := 23) rfl))) rfl (hb hby d5_275) q) ?_
                show Rch p ev below _ s₁ (mkF m 277 #[.val (.ref a1), .val (.int p2), .val (.int p3), .val (.int (p3 - p2)), .val (.int (own_c bs p2 0)), .val (.int (2 : Int32)), .val (.int (own_cp (own_c bs p2 0 &&& (31 : Int32)) (own_c bs p2 1))), .val (.int (128 : Int32)), .val (.int (own_c bs p2 1)), .unset] [(.int (1114111 : Int32)), (.int (own_cp (own_c bs p2 0 &&& (31 : Int32)) (own_c bs p2 1)))])
                by_cases hc277 : (1114111 : Int32) < (own_cp (own_c bs p2 0 &&& (31 : Int32)) (own_c bs p2 1))
                · skip
                  refine Rch.go (fun _ q => XS.icmpNo X0.here hx rfl (hb hby d5_277) rfl (tlt hc277).2.2.2 q) ?_
                  show Rch p ev below _ s₁ (mkF m 280 #[.val (.ref a1), .val (.int p2), .val (.int p3), .val (.int (p3 - p2)), .val (.int (own_c bs p2 0)), .val (.int (2 : Int32)), .val (.int (own_cp (own_c bs p2 0 &&& (31 : Int32)) (own_c bs p2 1))), .val (.int (128 : Int32)), .val (.int (own_c bs p2 1)), .unset] [])
                  refine Rch.go (fun _ q => XS.iconst X0.here hx rfl (hb hby d5_280) q) ?_
                  show Rch p ev below _ s₁ (mkF m 281 #[.val (.ref a1), .val (.int p2), .val (.int p3), .val (.int (p3 - p2)), .val (.int (own_c bs p2 0)), .val (.int (2 : Int32)), .val (.int (own_cp (own_c bs p2 0 &&& (31 : Int32)) (own_c bs p2 1))), .val (.int (128 : Int32)), .val (.int (own_c bs p2 1)), .unset] [(.int (0 : Int32))])
                  refine Rch.retI X0 hx hlk Bd.returns (hb hby d5_281) (by decide) (by decide) ?_
                  unfold Qrm5
                  exact ⟨by simp only [own_sq, own_sq2, own_sq3, own_sq4, own_chk, hc18, hc32, hc117, hc142, hc252, hc261, hc268, hc277, if_true, if_false], N0, e0⟩
                · skip
                  refine Rch.go (fun _ q => XS.icmpYes X0.here hx rfl (pc0 := 277) (pc' := 282) rfl (hb hby d5_277) rfl (flt hc277).2.2.2 (by decide) (by decide) q) ?_
                  show Rch p ev below _ s₁ (mkF m 282 #[.val (.ref a1), .val (.int p2), .val (.int p3), .val (.int (p3 - p2)), .val (.int (own_c bs p2 0)), .val (.int (2 : Int32)), .val (.int (own_cp (own_c bs p2 0 &&& (31 : Int32)) (own_c bs p2 1))), .val (.int (128 : Int32)), .val (.int (own_c bs p2 1)), .unset] [])
                  refine Rch.go (fun _ q => XS.iload X0.here hx rfl (hb hby d5_282) rfl  q) ?_
                  show Rch p ev below _ s₁ (mkF m 284 #[.val (.ref a1), .val (.int p2), .val (.int p3), .val (.int (p3 - p2)), .val (.int (own_c bs p2 0)), .val (.int (2 : Int32)), .val (.int (own_cp (own_c bs p2 0 &&& (31 : Int32)) (own_c bs p2 1))), .val (.int (128 : Int32)), .val (.int (own_c bs p2 1)), .unset] [(.int (2 : Int32))])
                  refine Rch.retI X0 hx hlk Bd.returns (hb hby d5_284) (by decide) (by decide) ?_
                  unfold Qrm5
                  exact ⟨by simp only [own_sq, own_sq2, own_sq3, own_sq4, own_chk, hc18, hc32, hc117, hc142, hc252, hc261, hc268, hc277, if_true, if_false], N0, e0⟩
              · skip
                refine Rch.go (fun _ q => XS.icmpNo X0.here hx rfl (hb hby d5_268) rfl (flt hc268).2.2.1 q) ?_
                show Rch p ev below _ s₁ (mkF m 271 #[.val (.ref a1), .val (.int p2), .val (.int p3), .val (.int (p3 - p2)), .val (.int (own_c bs p2 0)), .val (.int (2 : Int32)), .val (.int (own_cp (own_c bs p2 0 &&& (31 : Int32)) (own_c bs p2 1))), .val (.int (128 : Int32)), .val (.int (own_c bs p2 1)), .unset] [])
                refine Rch.go (fun _ q => XS.iconst X0.here hx rfl (hb hby d5_271) q) ?_
                show Rch p ev below _ s₁ (mkF m 272 #[.val (.ref a1), .val (.int p2), .val (.int p3), .val (.int (p3 - p2)), .val (.int (own_c bs p2 0)), .val (.int (2 : Int32)), .val (.int (own_cp (own_c bs p2 0 &&& (31 : Int32)) (own_c bs p2 1))), .val (.int (128 : Int32)), .val (.int (own_c bs p2 1)), .unset] [(.int (0 : Int32))])
                refine Rch.retI X0 hx hlk Bd.returns (hb hby d5_272) (by decide) (by decide) ?_
                unfold Qrm5
                exact ⟨by simp only [own_sq, own_sq2, own_sq3, own_sq4, own_chk, hc18, hc32, hc117, hc142, hc252, hc261, hc268, if_true, if_false], N0, e0⟩
        · skip
          refine Rch.go (fun _ q => XS.icmpNo X0.here hx rfl (hb hby d5_142) rfl (feq hc142).1 q) ?_
          show Rch p ev below _ s₁ (mkF m 145 #[.val (.ref a1), .val (.int p2), .val (.int p3), .val (.int (p3 - p2)), .val (.int (own_c bs p2 0)), .val (.int (2 : Int32)), .val (.int ((own_c bs p2 0) &&& (31 : Int32))), .val (.int (128 : Int32)), .val (.int (own_c bs p2 1)), .unset] [])
          refine Rch.go (fun _ q => XS.iconst X0.here hx rfl (hb hby d5_145) q) ?_
          show Rch p ev below _ s₁ (mkF m 146 #[.val (.ref a1), .val (.int p2), .val (.int p3), .val (.int (p3 - p2)), .val (.int (own_c bs p2 0)), .val (.int (2 : Int32)), .val (.int ((own_c bs p2 0) &&& (31 : Int32))), .val (.int (128 : Int32)), .val (.int (own_c bs p2 1)), .unset] [(.int (0 : Int32))])
          refine Rch.retI X0 hx hlk Bd.returns (hb hby d5_146) (by decide) (by decide) ?_
          unfold Qrm5
          exact ⟨by simp only [own_sq, own_sq2, own_sq3, own_sq4, own_chk, hc18, hc32, hc117, hc142, if_true, if_false], N0, e0⟩
    · skip
      refine Rch.go (fun _ q => XS.icmpYes X0.here hx rfl (pc0 := 32) (pc' := 53) rfl (hb hby d5_32) rfl (feq hc32).2 (by decide) (by decide) q) ?_
      show Rch p ev below _ s₁ (mkF m 53 #[.val (.ref a1), .val (.int p2), .val (.int p3), .val (.int (p3 - p2)), .val (.int (own_c bs p2 0)), .unset, .unset, .unset, .unset, .unset] [])
      refine Rch.go (fun _ q => XS.iload X0.here hx rfl (hb hby d5_53) rfl  q) ?_
      show Rch p ev below _ s₁ (mkF m 55 #[.val (.ref a1), .val (.int p2), .val (.int p3), .val (.int (p3 - p2)), .val (.int (own_c bs p2 0)), .unset, .unset, .unset, .unset, .unset] [(.int (own_c bs p2 0))])
      refine Rch.go (fun _ q => XS.sipush X0.here hx rfl (hb hby d5_55) q) ?_
      show Rch p ev below _ s₁ (mkF m 58 #[.val (.ref a1), .val (.int p2), .val (.int p3), .val (.int (p3 - p2)), .val (.int (own_c bs p2 0)), .unset, .unset, .unset, .unset, .unset] [(.int (240 : Int32)), (.int (own_c bs p2 0))])
      refine Rch.go (fun _ q => XS.iand X0.here hx rfl (hb hby d5_58) rfl q) ?_
      show Rch p ev below _ s₁ (mkF m 59 #[.val (.ref a1), .val (.int p2), .val (.int p3), .val (.int (p3 - p2)), .val (.int (own_c bs p2 0)), .unset, .unset, .unset, .unset, .unset] [(.int ((own_c bs p2 0) &&& (240 : Int32)))])
      refine Rch.go (fun _ q => XS.sipush X0.here hx rfl (hb hby d5_59) q) ?_
      show Rch p ev below _ s₁ (mkF m 62 #[.val (.ref a1), .val (.int p2), .val (.int p3), .val (.int (p3 - p2)), .val (.int (own_c bs p2 0)), .unset, .unset, .unset, .unset, .unset] [(.int (224 : Int32)), (.int ((own_c bs p2 0) &&& (240 : Int32)))])
      by_cases hc62 : ((own_c bs p2 0) &&& (240 : Int32)) = (224 : Int32)
      · skip
        refine Rch.go (fun _ q => XS.icmpNo X0.here hx rfl (hb hby d5_62) rfl (teq hc62).2 q) ?_
        show Rch p ev below _ s₁ (mkF m 65 #[.val (.ref a1), .val (.int p2), .val (.int p3), .val (.int (p3 - p2)), .val (.int (own_c bs p2 0)), .unset, .unset, .unset, .unset, .unset] [])
        refine Rch.go (fun _ q => XS.iconst X0.here hx rfl (hb hby d5_65) q) ?_
        show Rch p ev below _ s₁ (mkF m 66 #[.val (.ref a1), .val (.int p2), .val (.int p3), .val (.int (p3 - p2)), .val (.int (own_c bs p2 0)), .unset, .unset, .unset, .unset, .unset] [(.int (3 : Int32))])
        refine Rch.go (fun _ q => XS.istore X0.here hx rfl (hb hby d5_66) rfl (l' := #[.val (.ref a1), .val (.int p2), .val (.int p3), .val (.int (p3 - p2)), .val (.int (own_c bs p2 0)), .val (.int (3 : Int32)), .unset, .unset, .unset, .unset]) rfl q) ?_
        show Rch p ev below _ s₁ (mkF m 68 #[.val (.ref a1), .val (.int p2), .val (.int p3), .val (.int (p3 - p2)), .val (.int (own_c bs p2 0)), .val (.int (3 : Int32)), .unset, .unset, .unset, .unset] [])
        refine Rch.go (fun _ q => XS.iload X0.here hx rfl (hb hby d5_68) rfl  q) ?_
        show Rch p ev below _ s₁ (mkF m 70 #[.val (.ref a1), .val (.int p2), .val (.int p3), .val (.int (p3 - p2)), .val (.int (own_c bs p2 0)), .val (.int (3 : Int32)), .unset, .unset, .unset, .unset] [(.int (own_c bs p2 0))])
        refine Rch.go (fun _ q => XS.bipush X0.here hx rfl (hb hby d5_70) q) ?_
        show Rch p ev below _ s₁ (mkF m 72 #[.val (.ref a1), .val (.int p2), .val (.int p3), .val (.int (p3 - p2)), .val (.int (own_c bs p2 0)), .val (.int (3 : Int32)), .unset, .unset, .unset, .unset] [(.int (15 : Int32)), (.int (own_c bs p2 0))])
        refine Rch.go (fun _ q => XS.iand X0.here hx rfl (hb hby d5_72) rfl q) ?_
        show Rch p ev below _ s₁ (mkF m 73 #[.val (.ref a1), .val (.int p2), .val (.int p3), .val (.int (p3 - p2)), .val (.int (own_c bs p2 0)), .val (.int (3 : Int32)), .unset, .unset, .unset, .unset] [(.int ((own_c bs p2 0) &&& (15 : Int32)))])
        refine Rch.go (fun _ q => XS.istore X0.here hx rfl (hb hby d5_73) rfl (l' := #[.val (.ref a1), .val (.int p2), .val (.int p3), .val (.int (p3 - p2)), .val (.int (own_c bs p2 0)), .val (.int (3 : Int32)), .val (.int ((own_c bs p2 0) &&& (15 : Int32))), .unset, .unset, .unset]) rfl q) ?_
        show Rch p ev below _ s₁ (mkF m 75 #[.val (.ref a1), .val (.int p2), .val (.int p3), .val (.int (p3 - p2)), .val (.int (own_c bs p2 0)), .val (.int (3 : Int32)), .val (.int ((own_c bs p2 0) &&& (15 : Int32))), .unset, .unset, .unset] [])
        refine Rch.go (fun _ q => XS.sipush X0.here hx rfl (hb hby d5_75) q) ?_
        show Rch p ev below _ s₁ (mkF m 78 #[.val (.ref a1), .val (.int p2), .val (.int p3), .val (.int (p3 - p2)), .val (.int (own_c bs p2 0)), .val (.int (3 : Int32)), .val (.int ((own_c bs p2 0) &&& (15 : Int32))), .unset, .unset, .unset] [(.int (2048 : Int32))])
        refine Rch.go (fun _ q => XS.istore X0.here hx rfl (hb hby d5_78) rfl (l' := #[.val (.ref a1), .val (.int p2), .val (.int p3), .val (.int (p3 - p2)), .val (.int (own_c bs p2 0)), .val (.int (3 : Int32)), .val (.int ((own_c bs p2 0) &&& (15 : Int32))), .val (.int (2048 : Int32)), .unset, .unset]) rfl q) ?_
        show Rch p ev below _ s₁ (mkF m 80 #[.val (.ref a1), .val (.int p2), .val (.int p3), .val (.int (p3 - p2)), .val (.int (own_c bs p2 0)), .val (.int (3 : Int32)), .val (.int ((own_c bs p2 0) &&& (15 : Int32))), .val (.int (2048 : Int32)), .unset, .unset] [])
        refine Rch.go (fun _ q => XS.goto X0.here hx rfl (pc0 := 80) (pc' := 114) rfl (hb hby d5_80) (by decide) (by decide) q) ?_
        show Rch p ev below _ s₁ (mkF m 114 #[.val (.ref a1), .val (.int p2), .val (.int p3), .val (.int (p3 - p2)), .val (.int (own_c bs p2 0)), .val (.int (3 : Int32)), .val (.int ((own_c bs p2 0) &&& (15 : Int32))), .val (.int (2048 : Int32)), .unset, .unset] [])
        refine Rch.go (fun _ q => XS.iload X0.here hx rfl (hb hby d5_114) rfl  q) ?_
        show Rch p ev below _ s₁ (mkF m 116 #[.val (.ref a1), .val (.int p2), .val (.int p3), .val (.int (p3 - p2)), .val (.int (own_c bs p2 0)), .val (.int (3 : Int32)), .val (.int ((own_c bs p2 0) &&& (15 : Int32))), .val (.int (2048 : Int32)), .unset, .unset] [(.int (3 : Int32))])
        refine Rch.go (fun _ q => XS.iloadN X0.here hx rfl (hb hby d5_116) rfl  q) ?_
        show Rch p ev below _ s₁ (mkF m 117 #[.val (.ref a1), .val (.int p2), .val (.int p3), .val (.int (p3 - p2)), .val (.int (own_c bs p2 0)), .val (.int (3 : Int32)), .val (.int ((own_c bs p2 0) &&& (15 : Int32))), .val (.int (2048 : Int32)), .unset, .unset] [(.int (p3 - p2)), (.int (3 : Int32))])
        by_cases hc117 : (p3 - p2) < (3 : Int32)
        · skip
          refine Rch.go (fun _ q => XS.icmpNo X0.here hx rfl (hb hby d5_117) rfl (tlt hc117).2.2.2 q) ?_
          show Rch p ev below _ s₁ (mkF m 120 #[.val (.ref a1), .val (.int p2), .val (.int p3), .val (.int (p3 - p2)), .val (.int (own_c bs p2 0)), .val (.int (3 : Int32)), .val (.int ((own_c bs p2 0) &&& (15 : Int32))), .val (.int (2048 : Int32)), .unset, .unset] [])
          refine Rch.go (fun _ q => XS.iconst X0.here hx rfl (hb hby d5_120) q) ?_
          show Rch p ev below _ s₁ (mkF m 121 #[.val (.ref a1), .val (.int p2), .val (.int p3), .val (.int (p3 - p2)), .val (.int (own_c bs p2 0)), .val (.int (3 : Int32)), .val (.int ((own_c bs p2 0) &&& (15 : Int32))), .val (.int (2048 : Int32)), .unset, .unset] [(.int (0 : Int32))])
          refine Rch.retI X0 hx hlk Bd.returns (hb hby d5_121) (by decide) (by decide) ?_
          unfold Qrm5
          exact ⟨by simp only [own_sq, own_sq2, own_sq3, own_sq4, own_chk, hc18, hc32, hc62, hc117, if_true, if_false], N0, e0⟩
        · skip
          refine Rch.go (fun _ q => XS.icmpYes X0.here hx rfl (pc0 := 117) (pc' := 122) rfl (hb hby d5_117) rfl (flt hc117).2.2.2 (by decide) (by decide) q) ?_
          show Rch p ev below _ s₁ (mkF m 122 #[.val (.ref a1), .val (.int p2), .val (.int p3), .val (.int (p3 - p2)), .val (.int (own_c bs p2 0)), .val (.int (3 : Int32)), .val (.int ((own_c bs p2 0) &&& (15 : Int32))), .val (.int (2048 : Int32)), .unset, .unset] [])
          have kn : (3 : Int32).toInt = 3 := rfl
          have hav : p2.toInt + 3 ≤ p3.toInt := by rw [Int32.lt_iff_toInt_lt] at hc117; omega
          refine Rch.go (fun _ q => XS.aloadN X0.here hx rfl (hb hby d5_122) rfl rfl q) ?_
          show Rch p ev below _ s₁ (mkF m 123 #[.val (.ref a1), .val (.int p2), .val (.int p3), .val (.int (p3 - p2)), .val (.int (own_c bs p2 0)), .val (.int (3 : Int32)), .val (.int ((own_c bs p2 0) &&& (15 : Int32))), .val (.int (2048 : Int32)), .unset, .unset] [(.ref a1)])
          refine Rch.go (fun _ q => XS.iloadN X0.here hx rfl (hb hby d5_123) rfl  q) ?_
          show Rch p ev below _ s₁ (mkF m 124 #[.val (.ref a1), .val (.int p2), .val (.int p3), .val (.int (p3 - p2)), .val (.int (own_c bs p2 0)), .val (.int (3 : Int32)), .val (.int ((own_c bs p2 0) &&& (15 : Int32))), .val (.int (2048 : Int32)), .unset, .unset] [(.int p2), (.ref a1)])
          refine Rch.go (fun _ q => XS.iconst X0.here hx rfl (hb hby d5_124) q) ?_
          show Rch p ev below _ s₁ (mkF m 125 #[.val (.ref a1), .val (.int p2), .val (.int p3), .val (.int (p3 - p2)), .val (.int (own_c bs p2 0)), .val (.int (3 : Int32)), .val (.int ((own_c bs p2 0) &&& (15 : Int32))), .val (.int (2048 : Int32)), .unset, .unset] [(.int (1 : Int32)), (.int p2), (.ref a1)])
          refine Rch.go (fun _ q => XS.iadd X0.here hx rfl (hb hby d5_125) rfl q) ?_
          show Rch p ev below _ s₁ (mkF m 126 #[.val (.ref a1), .val (.int p2), .val (.int p3), .val (.int (p3 - p2)), .val (.int (own_c bs p2 0)), .val (.int (3 : Int32)), .val (.int ((own_c bs p2 0) &&& (15 : Int32))), .val (.int (2048 : Int32)), .unset, .unset] [(.int (p2 + (1 : Int32))), (.ref a1)])
          refine Rch.go (fun _ q => ldB X0 hx hZ e0 V1 (j := (p2 + (1 : Int32))) (v := (.int (bs.getD (p2.toNatClampNeg + 1) 0))) (own_jk p2 (1 : Int32) 1 rfl hi0 (by omega)).1 (by rw [(own_jk p2 (1 : Int32) 1 rfl hi0 (by omega)).2]; exact own_rd bs _) (g := (mkF m 126 #[.val (.ref a1), .val (.int p2), .val (.int p3), .val (.int (p3 - p2)), .val (.int (own_c bs p2 0)), .val (.int (3 : Int32)), .val (.int ((own_c bs p2 0) &&& (15 : Int32))), .val (.int (2048 : Int32)), .unset, .unset] [(.int (p2 + (1 : Int32))), (.ref a1)])) rfl rfl (hb hby d5_126) _ q) ?_
          show Rch p ev below _ s₁ (mkF m 127 #[.val (.ref a1), .val (.int p2), .val (.int p3), .val (.int (p3 - p2)), .val (.int (own_c bs p2 0)), .val (.int (3 : Int32)), .val (.int ((own_c bs p2 0) &&& (15 : Int32))), .val (.int (2048 : Int32)), .unset, .unset] [(.int (bs.getD (p2.toNatClampNeg + 1) 0))])
          refine Rch.go (fun _ q => XS.sipush X0.here hx rfl (hb hby d5_127) q) ?_
          show Rch p ev below _ s₁ (mkF m 130 #[.val (.ref a1), .val (.int p2), .val (.int p3), .val (.int (p3 - p2)), .val (.int (own_c bs p2 0)), .val (.int (3 : Int32)), .val (.int ((own_c bs p2 0) &&& (15 : Int32))), .val (.int (2048 : Int32)), .unset, .unset] [(.int (255 : Int32)), (.int (bs.getD (p2.toNatClampNeg + 1) 0))])
          refine Rch.go (fun _ q => XS.iand X0.here hx rfl (hb hby d5_130) rfl q) ?_
          show Rch p ev below _ s₁ (mkF m 131 #[.val (.ref a1), .val (.int p2), .val (.int p3), .val (.int (p3 - p2)), .val (.int (own_c bs p2 0)), .val (.int (3 : Int32)), .val (.int ((own_c bs p2 0) &&& (15 : Int32))), .val (.int (2048 : Int32)), .unset, .unset] [(.int ((bs.getD (p2.toNatClampNeg + 1) 0) &&& (255 : Int32)))])
          refine Rch.go (fun _ q => XS.istore X0.here hx rfl (hb hby d5_131) rfl (l' := #[.val (.ref a1), .val (.int p2), .val (.int p3), .val (.int (p3 - p2)), .val (.int (own_c bs p2 0)), .val (.int (3 : Int32)), .val (.int ((own_c bs p2 0) &&& (15 : Int32))), .val (.int (2048 : Int32)), .val (.int ((bs.getD (p2.toNatClampNeg + 1) 0) &&& (255 : Int32))), .unset]) rfl q) ?_
          show Rch p ev below _ s₁ (mkF m 133 #[.val (.ref a1), .val (.int p2), .val (.int p3), .val (.int (p3 - p2)), .val (.int (own_c bs p2 0)), .val (.int (3 : Int32)), .val (.int ((own_c bs p2 0) &&& (15 : Int32))), .val (.int (2048 : Int32)), .val (.int ((bs.getD (p2.toNatClampNeg + 1) 0) &&& (255 : Int32))), .unset] [])
          show Rch p ev below _ s₁ (mkF m 133 #[.val (.ref a1), .val (.int p2), .val (.int p3), .val (.int (p3 - p2)), .val (.int (own_c bs p2 0)), .val (.int (3 : Int32)), .val (.int ((own_c bs p2 0) &&& (15 : Int32))), .val (.int (2048 : Int32)), .val (.int (own_c bs p2 1)), .unset] [])
          refine Rch.go (fun _ q => XS.iload X0.here hx rfl (hb hby d5_133) rfl  q) ?_
          show Rch p ev below _ s₁ (mkF m 135 #[.val (.ref a1), .val (.int p2), .val (.int p3), .val (.int (p3 - p2)), .val (.int (own_c bs p2 0)), .val (.int (3 : Int32)), .val (.int ((own_c bs p2 0) &&& (15 : Int32))), .val (.int (2048 : Int32)), .val (.int (own_c bs p2 1)), .unset] [(.int (own_c bs p2 1))])
          refine Rch.go (fun _ q => XS.sipush X0.here hx rfl (hb hby d5_135) q) ?_
          show Rch p ev below _ s₁ (mkF m 138 #[.val (.ref a1), .val (.int p2), .val (.int p3), .val (.int (p3 - p2)), .val (.int (own_c bs p2 0)), .val (.int (3 : Int32)), .val (.int ((own_c bs p2 0) &&& (15 : Int32))), .val (.int (2048 : Int32)), .val (.int (own_c bs p2 1)), .unset] [(.int (192 : Int32)), (.int (own_c bs p2 1))])
          refine Rch.go (fun _ q => XS.iand X0.here hx rfl (hb hby d5_138) rfl q) ?_
          show Rch p ev below _ s₁ (mkF m 139 #[.val (.ref a1), .val (.int p2), .val (.int p3), .val (.int (p3 - p2)), .val (.int (own_c bs p2 0)), .val (.int (3 : Int32)), .val (.int ((own_c bs p2 0) &&& (15 : Int32))), .val (.int (2048 : Int32)), .val (.int (own_c bs p2 1)), .unset] [(.int ((own_c bs p2 1) &&& (192 : Int32)))])
          refine Rch.go (fun _ q => XS.sipush X0.here hx rfl (hb hby d5_139) q) ?_
          show Rch p ev below _ s₁ (mkF m 142 #[.val (.ref a1), .val (.int p2), .val (.int p3), .val (.int (p3 - p2)), .val (.int (own_c bs p2 0)), .val (.int (3 : Int32)), .val (.int ((own_c bs p2 0) &&& (15 : Int32))), .val (.int (2048 : Int32)), .val (.int (own_c bs p2 1)), .unset] [(.int (128 : Int32)), (.int ((own_c bs p2 1) &&& (192 : Int32)))])
          by_cases hc142 : ((own_c bs p2 1) &&& (192 : Int32)) = (128 : Int32)
          · skip
            refine Rch.go (fun _ q => XS.icmpYes X0.here hx rfl (pc0 := 142) (pc' := 147) rfl (hb hby d5_142) rfl (teq hc142).1 (by decide) (by decide) q) ?_
            show Rch p ev below _ s₁ (mkF m 147 #[.val (.ref a1), .val (.int p2), .val (.int p3), .val (.int (p3 - p2)), .val (.int (own_c bs p2 0)), .val (.int (3 : Int32)), .val (.int ((own_c bs p2 0) &&& (15 : Int32))), .val (.int (2048 : Int32)), .val (.int (own_c bs p2 1)), .unset] [])
            refine Rch.go (fun _ q => XS.iload X0.here hx rfl (hb hby d5_147) rfl  q) ?_
            show Rch p ev below _ s₁ (mkF m 149 #[.val (.ref a1), .val (.int p2), .val (.int p3), .val (.int (p3 - p2)), .val (.int (own_c bs p2 0)), .val (.int (3 : Int32)), .val (.int ((own_c bs p2 0) &&& (15 : Int32))), .val (.int (2048 : Int32)), .val (.int (own_c bs p2 1)), .unset] [(.int ((own_c bs p2 0) &&& (15 : Int32)))])
            refine Rch.go (fun _ q => XS.bipush X0.here hx rfl (hb hby d5_149) q) ?_
            show Rch p ev below _ s₁ (mkF m 151 #[.val (.ref a1), .val (.int p2), .val (.int p3), .val (.int (p3 - p2)), .val (.int (own_c bs p2 0)), .val (.int (3 : Int32)), .val (.int ((own_c bs p2 0) &&& (15 : Int32))), .val (.int (2048 : Int32)), .val (.int (own_c bs p2 1)), .unset] [(.int (6 : Int32)), (.int ((own_c bs p2 0) &&& (15 : Int32)))])
            refine Rch.go (fun _ q => XS.ishl X0.here hx rfl (hb hby d5_151) rfl q) ?_
            show Rch p ev below _ s₁ (mkF m 152 #[.val (.ref a1), .val (.int p2), .val (.int p3), .val (.int (p3 - p2)), .val (.int (own_c bs p2 0)), .val (.int (3 : Int32)), .val (.int ((own_c bs p2 0) &&& (15 : Int32))), .val (.int (2048 : Int32)), .val (.int (own_c bs p2 1)), .unset] [(.int (((own_c bs p2 0) &&& (15 : Int32)) <<< ((6 : Int32) &&& 31)))])
            refine Rch.go (fun _ q => XS.iload X0.here hx rfl (hb hby d5_152) rfl  q) ?_
            show Rch p ev below _ s₁ (mkF m 154 #[.val (.ref a1), .val (.int p2), .val (.int p3), .val (.int (p3 - p2)), .val (.int (own_c bs p2 0)), .val (.int (3 : Int32)), .val (.int ((own_c bs p2 0) &&& (15 : Int32))), .val (.int (2048 : Int32)), .val (.int (own_c bs p2 1)), .unset] [(.int (own_c bs p2 1)), (.int (((own_c bs p2 0) &&& (15 : Int32)) <<< ((6 : Int32) &&& 31)))])
            refine Rch.go (fun _ q => XS.bipush X0.here hx rfl (hb hby d5_154) q) ?_
            show Rch p ev below _ s₁ (mkF m 156 #[.val (.ref a1), .val (.int p2), .val (.int p3), .val (.int (p3 - p2)), .val (.int (own_c bs p2 0)), .val (.int (3 : Int32)), .val (.int ((own_c bs p2 0) &&& (15 : Int32))), .val (.int (2048 : Int32)), .val (.int (own_c bs p2 1)), .unset] [(.int (63 : Int32)), (.int (own_c bs p2 1)), (.int (((own_c bs p2 0) &&& (15 : Int32)) <<< ((6 : Int32) &&& 31)))])
            refine Rch.go (fun _ q => XS.iand X0.here hx rfl (hb hby d5_156) rfl q) ?_
            show Rch p ev below _ s₁ (mkF m 157 #[.val (.ref a1), .val (.int p2), .val (.int p3), .val (.int (p3 - p2)), .val (.int (own_c bs p2 0)), .val (.int (3 : Int32)), .val (.int ((own_c bs p2 0) &&& (15 : Int32))), .val (.int (2048 : Int32)), .val (.int (own_c bs p2 1)), .unset] [(.int ((own_c bs p2 1) &&& (63 : Int32))), (.int (((own_c bs p2 0) &&& (15 : Int32)) <<< ((6 : Int32) &&& 31)))])
            refine Rch.go (fun _ q => XS.ior X0.here hx rfl (hb hby d5_157) rfl q) ?_
            show Rch p ev below _ s₁ (mkF m 158 #[.val (.ref a1), .val (.int p2), .val (.int p3), .val (.int (p3 - p2)), .val (.int (own_c bs p2 0)), .val (.int (3 : Int32)), .val (.int ((own_c bs p2 0) &&& (15 : Int32))), .val (.int (2048 : Int32)), .val (.int (own_c bs p2 1)), .unset] [(.int ((((own_c bs p2 0) &&& (15 : Int32)) <<< ((6 : Int32) &&& 31)) ||| ((own_c bs p2 1) &&& (63 : Int32))))])
            refine Rch.go (fun _ q => XS.istore X0.here hx rfl (hb hby d5_158) rfl (l' := #[.val (.ref a1), .val (.int p2), .val (.int p3), .val (.int (p3 - p2)), .val (.int (own_c bs p2 0)), .val (.int (3 : Int32)), .val (.int ((((own_c bs p2 0) &&& (15 : Int32)) <<< ((6 : Int32) &&& 31)) ||| ((own_c bs p2 1) &&& (63 : Int32)))), .val (.int (2048 : Int32)), .val (.int (own_c bs p2 1)), .unset]) rfl q) ?_
            show Rch p ev below _ s₁ (mkF m 160 #[.val (.ref a1), .val (.int p2), .val (.int p3), .val (.int (p3 - p2)), .val (.int (own_c bs p2 0)), .val (.int (3 : Int32)), .val (.int ((((own_c bs p2 0) &&& (15 : Int32)) <<< ((6 : Int32) &&& 31)) ||| ((own_c bs p2 1) &&& (63 : Int32)))), .val (.int (2048 : Int32)), .val (.int (own_c bs p2 1)), .unset] [])
            show Rch p ev below _ s₁ (mkF m 160 #[.val (.ref a1), .val (.int p2), .val (.int p3), .val (.int (p3 - p2)), .val (.int (own_c bs p2 0)), .val (.int (3 : Int32)), .val (.int (own_cp (own_c bs p2 0 &&& (15 : Int32)) (own_c bs p2 1))), .val (.int (2048 : Int32)), .val (.int (own_c bs p2 1)), .unset] [])
            refine Rch.go (fun _ q => XS.iload X0.here hx rfl (hb hby d5_160) rfl  q) ?_
            show Rch p ev below _ s₁ (mkF m 162 #[.val (.ref a1), .val (.int p2), .val (.int p3), .val (.int (p3 - p2)), .val (.int (own_c bs p2 0)), .val (.int (3 : Int32)), .val (.int (own_cp (own_c bs p2 0 &&& (15 : Int32)) (own_c bs p2 1))), .val (.int (2048 : Int32)), .val (.int (own_c bs p2 1)), .unset] [(.int (3 : Int32))])
            refine Rch.go (fun _ q => XS.iconst X0.here hx rfl (hb hby d5_162) q) ?_
            show Rch p ev below _ s₁ (mkF m 163 #[.val (.ref a1), .val (.int p2), .val (.int p3), .val (.int (p3 - p2)), .val (.int (own_c bs p2 0)), .val (.int (3 : Int32)), .val (.int (own_cp (own_c bs p2 0 &&& (15 : Int32)) (own_c bs p2 1))), .val (.int (2048 : Int32)), .val (.int (own_c bs p2 1)), .unset] [(.int (3 : Int32)), (.int (3 : Int32))])
            refine Rch.go (fun _ q => XS.icmpNo X0.here hx rfl (hb hby d5_163) rfl (flt (by decide)).1 q) ?_
            show Rch p ev below _ s₁ (mkF m 166 #[.val (.ref a1), .val (.int p2), .val (.int p3), .val (.int (p3 - p2)), .val (.int (own_c bs p2 0)), .val (.int (3 : Int32)), .val (.int (own_cp (own_c bs p2 0 &&& (15 : Int32)) (own_c bs p2 1))), .val (.int (2048 : Int32)), .val (.int (own_c bs p2 1)), .unset] [])
            refine Rch.go (fun _ q => XS.aloadN X0.here hx rfl (hb hby d5_166) rfl rfl q) ?_
            show Rch p ev below _ s₁ (mkF m 167 #[.val (.ref a1), .val (.int p2), .val (.int p3), .val (.int (p3 - p2)), .val (.int (own_c bs p2 0)), .val (.int (3 : Int32)), .val (.int (own_cp (own_c bs p2 0 &&& (15 : Int32)) (own_c bs p2 1))), .val (.int (2048 : Int32)), .val (.int (own_c bs p2 1)), .unset] [(.ref a1)])
            refine Rch.go (fun _ q => XS.iloadN X0.here hx rfl (hb hby d5_167) rfl  q) ?_
            show Rch p ev below _ s₁ (mkF m 168 #[.val (.ref a1), .val (.int p2), .val (.int p3), .val (.int (p3 - p2)), .val (.int (own_c bs p2 0)), .val (.int (3 : Int32)), .val (.int (own_cp (own_c bs p2 0 &&& (15 : Int32)) (own_c bs p2 1))), .val (.int (2048 : Int32)), .val (.int (own_c bs p2 1)), .unset] [(.int p2), (.ref a1)])
            refine Rch.go (fun _ q => XS.iconst X0.here hx rfl (hb hby d5_168) q) ?_
            show Rch p ev below _ s₁ (mkF m 169 #[.val (.ref a1), .val (.int p2), .val (.int p3), .val (.int (p3 - p2)), .val (.int (own_c bs p2 0)), .val (.int (3 : Int32)), .val (.int (own_cp (own_c bs p2 0 &&& (15 : Int32)) (own_c bs p2 1))), .val (.int (2048 : Int32)), .val (.int (own_c bs p2 1)), .unset] [(.int (2 : Int32)), (.int p2), (.ref a1)])
            refine Rch.go (fun _ q => XS.iadd X0.here hx rfl (hb hby d5_169) rfl q) ?_
            show Rch p ev below _ s₁ (mkF m 170 #[.val (.ref a1), .val (.int p2), .val (.int p3), .val (.int (p3 - p2)), .val (.int (own_c bs p2 0)), .val (.int (3 : Int32)), .val (.int (own_cp (own_c bs p2 0 &&& (15 : Int32)) (own_c bs p2 1))), .val (.int (2048 : Int32)), .val (.int (own_c bs p2 1)), .unset] [(.int (p2 + (2 : Int32))), (.ref a1)])
            refine Rch.go (fun _ q => ldB X0 hx hZ e0 V1 (j := (p2 + (2 : Int32))) (v := (.int (bs.getD (p2.toNatClampNeg + 2) 0))) (own_jk p2 (2 : Int32) 2 rfl hi0 (by omega)).1 (by rw [(own_jk p2 (2 : Int32) 2 rfl hi0 (by omega)).2]; exact own_rd bs _) (g := (mkF m 170 #[.val (.ref a1), .val (.int p2), .val (.int p3), .val (.int (p3 - p2)), .val (.int (own_c bs p2 0)), .val (.int (3 : Int32)), .val (.int (own_cp (own_c bs p2 0 &&& (15 : Int32)) (own_c bs p2 1))), .val (.int (2048 : Int32)), .val (.int (own_c bs p2 1)), .unset] [(.int (p2 + (2 : Int32))), (.ref a1)])) rfl rfl (hb hby d5_170) _ q) ?_
            show Rch p ev below _ s₁ (mkF m 171 #[.val (.ref a1), .val (.int p2), .val (.int p3), .val (.int (p3 - p2)), .val (.int (own_c bs p2 0)), .val (.int (3 : Int32)), .val (.int (own_cp (own_c bs p2 0 &&& (15 : Int32)) (own_c bs p2 1))), .val (.int (2048 : Int32)), .val (.int (own_c bs p2 1)), .unset] [(.int (bs.getD (p2.toNatClampNeg + 2) 0))])
            refine Rch.go (fun _ q => XS.sipush X0.here hx rfl (hb hby d5_171) q) ?_
            show Rch p ev below _ s₁ (mkF m 174 #[.val (.ref a1), .val (.int p2), .val (.int p3), .val (.int (p3 - p2)), .val (.int (own_c bs p2 0)), .val (.int (3 : Int32)), .val (.int (own_cp (own_c bs p2 0 &&& (15 : Int32)) (own_c bs p2 1))), .val (.int (2048 : Int32)), .val (.int (own_c bs p2 1)), .unset] [(.int (255 : Int32)), (.int (bs.getD (p2.toNatClampNeg + 2) 0))])
            refine Rch.go (fun _ q => XS.iand X0.here hx rfl (hb hby d5_174) rfl q) ?_
            show Rch p ev below _ s₁ (mkF m 175 #[.val (.ref a1), .val (.int p2), .val (.int p3), .val (.int (p3 - p2)), .val (.int (own_c bs p2 0)), .val (.int (3 : Int32)), .val (.int (own_cp (own_c bs p2 0 &&& (15 : Int32)) (own_c bs p2 1))), .val (.int (2048 : Int32)), .val (.int (own_c bs p2 1)), .unset] [(.int ((bs.getD (p2.toNatClampNeg + 2) 0) &&& (255 : Int32)))])
            refine Rch.go (fun _ q => XS.istore X0.here hx rfl (hb hby d5_175) rfl (l' := #[.val (.ref a1), .val (.int p2), .val (.int p3), .val (.int (p3 - p2)), .val (.int (own_c bs p2 0)), .val (.int (3 : Int32)), .val (.int (own_cp (own_c bs p2 0 &&& (15 : Int32)) (own_c bs p2 1))), .val (.int (2048 : Int32)), .val (.int (own_c bs p2 1)), .val (.int ((bs.getD (p2.toNatClampNeg + 2) 0) &&& (255 : Int32)))]) rfl q) ?_
            show Rch p ev below _ s₁ (mkF m 177 #[.val (.ref a1), .val (.int p2), .val (.int p3), .val (.int (p3 - p2)), .val (.int (own_c bs p2 0)), .val (.int (3 : Int32)), .val (.int (own_cp (own_c bs p2 0 &&& (15 : Int32)) (own_c bs p2 1))), .val (.int (2048 : Int32)), .val (.int (own_c bs p2 1)), .val (.int ((bs.getD (p2.toNatClampNeg + 2) 0) &&& (255 : Int32)))] [])
            show Rch p ev below _ s₁ (mkF m 177 #[.val (.ref a1), .val (.int p2), .val (.int p3), .val (.int (p3 - p2)), .val (.int (own_c bs p2 0)), .val (.int (3 : Int32)), .val (.int (own_cp (own_c bs p2 0 &&& (15 : Int32)) (own_c bs p2 1))), .val (.int (2048 : Int32)), .val (.int (own_c bs p2 1)), .val (.int (own_c bs p2 2))] [])
            refine Rch.go (fun _ q => XS.iload X0.here hx rfl (hb hby d5_177) rfl  q) ?_
            show Rch p ev below _ s₁ (mkF m 179 #[.val (.ref a1), .val (.int p2), .val (.int p3), .val (.int (p3 - p2)), .val (.int (own_c bs p2 0)), .val (.int (3 : Int32)), .val (.int (own_cp (own_c bs p2 0 &&& (15 : Int32)) (own_c bs p2 1))), .val (.int (2048 : Int32)), .val (.int (own_c bs p2 1)), .val (.int (own_c bs p2 2))] [(.int (own_c bs p2 2))])
            refine Rch.go (fun _ q => XS.sipush X0.here hx rfl (hb hby d5_179) q) ?_
            show Rch p ev below _ s₁ (mkF m 182 #[.val (.ref a1), .val (.int p2), .val (.int p3), .val (.int (p3 - p2)), .val (.int (own_c bs p2 0)), .val (.int (3 : Int32)), .val (.int (own_cp (own_c bs p2 0 &&& (15 : Int32)) (own_c bs p2 1))), .val (.int (2048 : Int32)), .val (.int (own_c bs p2 1)), .val (.int (own_c bs p2 2))] [(.int (192 : Int32)), (.int (own_c bs p2 2))])
            refine Rch.go (fun _ q => XS.iand X0.here hx rfl (hb hby d5_182) rfl q) ?_
            show Rch p ev below _ s₁ (mkF m 183 #[.val (.ref a1), .val (.int p2), .val (.int p3), .val (.int (p3 - p2)), .val (.int (own_c bs p2 0)), .val (.int (3 : Int32)), .val (.int (own_cp (own_c bs p2 0 &&& (15 : Int32)) (own_c bs p2 1))), .val (.int (2048 : Int32)), .val (.int (own_c bs p2 1)), .val (.int (own_c bs p2 2))] [(.int ((own_c bs p2 2) &&& (192 : Int32)))])
            refine Rch.go (fun _ q => XS.sipush X0.here hx rfl (hb hby d5_183) q) ?_
            show Rch p ev below _ s₁ (mkF m 186 #[.val (.ref a1), .val (.int p2), .val (.int p3), .val (.int (p3 - p2)), .val (.int (own_c bs p2 0)), .val (.int (3 : Int32)), .val (.int (own_cp (own_c bs p2 0 &&& (15 : Int32)) (own_c bs p2 1))), .val (.int (2048 : Int32)), .val (.int (own_c bs p2 1)), .val (.int (own_c bs p2 2))] [(.int (128 : Int32)), (.int ((own_c bs p2 2) &&& (192 : Int32)))])
            by_cases hc186 : ((own_c bs p2 2) &&& (192 : Int32)) = (128 : Int32)
            · skip
              refine Rch.go (fun _ q => XS.icmpYes X0.here hx rfl (pc0 := 186) (pc' := 191) rfl (hb hby d5_186) rfl (teq hc186).1 (by decide) (by decide) q) ?_
              show Rch p ev below _ s₁ (mkF m 191 #[.val (.ref a1), .val (.int p2), .val (.int p3), .val (.int (p3 - p2)), .val (.int (own_c bs p2 0)), .val (.int (3 : Int32)), .val (.int (own_cp (own_c bs p2 0 &&& (15 : Int32)) (own_c bs p2 1))), .val (.int (2048 : Int32)), .val (.int (own_c bs p2 1)), .val (.int (own_c bs p2 2))] [])
              refine Rch.go (fun _ q => XS.iload X0.here hx rfl (hb hby d5_191) rfl  q) ?_
              show Rch p ev below _ s₁ (mkF m 193 #[.val (.ref a1), .val (.int p2), .val (.int p3), .val (.int (p3 - p2)), .val (.int (own_c bs p2 0)), .val (.int (3 : Int32)), .val (.int (own_cp (own_c bs p2 0 &&& (15 : Int32)) (own_c bs p2 1))), .val (.int (2048 : Int32)), .val (.int (own_c bs p2 1)), .val (.int (own_c bs p2 2))] [(.int (own_cp (own_c bs p2 0 &&& (15 : Int32)) (own_c bs p2 1)))])
              refine Rch.go (fun _ q => XS.bipush X0.here hx rfl (hb hby d5_193) q) ?_
              show Rch p ev below _ s₁ (mkF m 195 #[.val (.ref a1), .val (.int p2), .val (.int p3), .val (.int (p3 - p2)), .val (.int (own_c bs p2 0)), .val (.int (3 : Int32)), .val (.int (own_cp (own_c bs p2 0 &&& (15 : Int32)) (own_c bs p2 1))), .val (.int (2048 : Int32)), .val (.int (own_c bs p2 1)), .val (.int (own_c bs p2 2))] [(.int (6 : Int32)), (.int (own_cp (own_c bs p2 0 &&& (15 : Int32)) (own_c bs p2 1)))])
              refine Rch.go (fun _ q => XS.ishl X0.here hx rfl (hb hby d5_195) rfl q) ?_
              show Rch p ev below _ s₁ (mkF m 196 #[.val (.ref a1), .val (.int p2), .val (.int p3), .val (.int (p3 - p2)), .val (.int (own_c bs p2 0)), .val (.int (3 : Int32)), .val (.int (own_cp (own_c bs p2 0 &&& (15 : Int32)) (own_c bs p2 1))), .val (.int (2048 : Int32)), .val (.int (own_c bs p2 1)), .val (.int (own_c bs p2 2))] [(.int ((own_cp (own_c bs p2 0 &&& (15 : Int32)) (own_c bs p2 1)) <<< ((6 : Int32) &&& 31)))])
              refine Rch.go (fun _ q => XS.iload X0.here hx rfl (hb hby d5_196) rfl  q) ?_
              show Rch p ev below _ s₁ (mkF m 198 #[.val (.ref a1), .val (.int p2), .val (.int p3), .val (.int (p3 - p2)), .val (.int (own_c bs p2 0)), .val (.int (3 : Int32)), .val (.int (own_cp (own_c bs p2 0 &&& (15 : Int32)) (own_c bs p2 1))), .val (.int (2048 : Int32)), .val (.int (own_c bs p2 1)), .val (.int (own_c bs p2 2))] [(.int (own_c bs p2 2)), (.int ((own_cp (own_c bs p2 0 &&& (15 : Int32)) (own_c bs p2 1)) <<< ((6 : Int32) &&& 31)))])
              refine Rch.go (fun _ q => XS.bipush X0.here hx rfl (hb hby d5_198) q) ?_
              show Rch p ev below _ s₁ (mkF m 200 #[.val (.ref a1), .val (.int p2), .val (.int p3), .val (.int (p3 - p2)), .val (.int (own_c bs p2 0)), .val (.int (3 : Int32)), .val (.int (own_cp (own_c bs p2 0 &&& (15 : Int32)) (own_c bs p2 1))), .val (.int (2048 : Int32)), .val (.int (own_c bs p2 1)), .val (.int (own_c bs p2 2))] [(.int (63 : Int32)), (.int (own_c bs p2 2)), (.int ((own_cp (own_c bs p2 0 &&& (15 : Int32)) (own_c bs p2 1)) <<< ((6 : Int32) &&& 31)))])
              refine Rch.go (fun _ q => XS.iand X0.here hx rfl (hb hby d5_200) rfl q) ?_
              show Rch p ev below _ s₁ (mkF m 201 #[.val (.ref a1), .val (.int p2), .val (.int p3), .val (.int (p3 - p2)), .val (.int (own_c bs p2 0)), .val (.int (3 : Int32)), .val (.int (own_cp (own_c bs p2 0 &&& (15 : Int32)) (own_c bs p2 1))), .val (.int (2048 : Int32)), .val (.int (own_c bs p2 1)), .val (.int (own_c bs p2 2))] [(.int ((own_c bs p2 2) &&& (63 : Int32))), (.int ((own_cp (own_c bs p2 0 &&& (15 : Int32)) (own_c bs p2 1)) <<< ((6 : Int32) &&& 31)))])
              refine Rch.go (fun _ q => XS.ior X0.here hx rfl (hb hby d5_201) rfl q) ?_
              show Rch p ev below _ s₁ (mkF m 202 #[.val (.ref a1), .val (.int p2), .val (.int p3), .val (.int (p3 - p2)), .val (.int (own_c bs p2 0)), .val (.int (3 : Int32)), .val (.int (own_cp (own_c bs p2 0 &&& (15 : Int32)) (own_c bs p2 1))), .val (.int (2048 : Int32)), .val (.int (own_c bs p2 1)), .val (.int (own_c bs p2 2))] [(.int (((own_cp (own_c bs p2 0 &&& (15 : Int32)) (own_c bs p2 1)) <<< ((6 : Int32) &&& 31)) ||| ((own_c bs p2 2) &&& (63 : Int32))))])
              refine Rch.go (fun _ q => XS.istore X0.here hx rfl (hb hby d5_202) rfl (l' := #[.val (.ref a1), .val (.int p2), .val (.int p3), .val (.int (p3 - p2)), .val (.int (own_c bs p2 0)), .val (.int (3 : Int32)), .val (.int (((own_cp (own_c bs p2 0 &&& (15 : Int32)) (own_c bs p2 1)) <<< ((6 : Int32) &&& 31)) ||| ((own_c bs p2 2) &&& (63 : Int32)))), .val (.int (2048 : Int32)), .val (.int (own_c bs p2 1)), .val (.int (own_c bs p2 2))]) rfl q) ?_
              show Rch p ev below _ s₁ (mkF m 204 #[.val (.ref a1), .val (.int p2), .val (.int p3), .val (.int (p3 - p2)), .val (.int (own_c bs p2 0)), .val (.int (3 : Int32)), .val (.int (((own_cp (own_c bs p2 0 &&& (15 : Int32)) (own_c bs p2 1)) <<< ((6 : Int32) &&& 31)) ||| ((own_c bs p2 2) &&& (63 : Int32)))), .val (.int (2048 : Int32)), .val (.int (own_c bs p2 1)), .val (.int (own_c bs p2 2))] [])
              show Rch p ev below _ s₁ (mkF m 204 #[.val (.ref a1), .val (.int p2), .val (.int p3), .val (.int (p3 - p2)), .val (.int (own_c bs p2 0)), .val (.int (3 : Int32)), .val (.int (own_cp (own_cp (own_c bs p2 0 &&& (15 : Int32)) (own_c bs p2 1)) (own_c bs p2 2))), .val (.int (2048 : Int32)), .val (.int (own_c bs p2 1)), .val (.int (own_c bs p2 2))] [])
              refine Rch.go (fun _ q => XS.iload X0.here hx rfl (hb hby d5_204) rfl  q) ?_
              show Rch p ev below _ s₁ (mkF m 206 #[.val (.ref a1), .val (.int p2), .val (.int p3), .val (.int (p3 - p2)), .val (.int (own_c bs p2 0)), .val (.int (3 : Int32)), .val (.int (own_cp (own_cp (own_c bs p2 0 &&& (15 : Int32)) (own_c bs p2 1)) (own_c bs p2 2))), .val (.int (2048 : Int32)), .val (.int (own_c bs p2 1)), .val (.int (own_c bs p2 2))] [(.int (3 : Int32))])
              refine Rch.go (fun _ q => XS.iconst X0.here hx rfl (hb hby d5_206) q) ?_
              show Rch p ev below _ s₁ (mkF m 207 #[.val (.ref a1), .val (.int p2), .val (.int p3), .val (.int (p3 - p2)), .val (.int (own_c bs p2 0)), .val (.int (3 : Int32)), .val (.int (own_cp (own_cp (own_c bs p2 0 &&& (15 : Int32)) (own_c bs p2 1)) (own_c bs p2 2))), .val (.int (2048 : Int32)), .val (.int (own_c bs p2 1)), .val (.int (own_c bs p2 2))] [(.int (4 : Int32)), (.int (3 : Int32))])
              refine Rch.go (fun _ q => XS.icmpYes X0.here hx rfl (pc0 := 207) (pc' := 248) rfl (hb hby d5_207) rfl (feq (by decide)).2 (by decide) (by decide) q) ?_
              show Rch p ev below _ s₁ (mkF m 248 #[.val (.ref a1), .val (.int p2), .val (.int p3), .val (.int (p3 - p2)), .val (.int (own_c bs p2 0)), .val (.int (3 : Int32)), .val (.int (own_cp (own_cp (own_c bs p2 0 &&& (15 : Int32)) (own_c bs p2 1)) (own_c bs p2 2))), .val (.int (2048 : Int32)), .val (.int (own_c bs p2 1)), .val (.int (own_c bs p2 2))] [])
              refine Rch.go (fun _ q => XS.iload X0.here hx rfl (hb hby d5_248) rfl  q) ?_
              show Rch p ev below _ s₁ (mkF m 250 #[.val (.ref a1), .val (.int p2), .val (.int p3), .val (.int (p3 - p2)), .val (.int (own_c bs p2 0)), .val (.int (3 : Int32)), .val (.int (own_cp (own_cp (own_c bs p2 0 &&& (15 : Int32)) (own_c bs p2 1)) (own_c bs p2 2))), .val (.int (2048 : Int32)), .val (.int (own_c bs p2 1)), .val (.int (own_c bs p2 2))] [(.int (own_cp (own_cp (own_c bs p2 0 &&& (15 : Int32)) (own_c bs p2 1)) (own_c bs p2 2)))])
              refine Rch.go (fun _ q => XS.iload X0.here hx rfl (hb hby d5_250) rfl  q) ?_
              show Rch p ev below _ s₁ (mkF m 252 #[.val (.ref a1), .val (.int p2), .val (.int p3), .val (.int (p3 - p2)), .val (.int (own_c bs p2 0)), .val (.int (3 : Int32)), .val (.int (own_cp (own_cp (own_c bs p2 0 &&& (15 : Int32)) (own_c bs p2 1)) (own_c bs p2 2))), .val (.int (2048 : Int32)), .val (.int (own_c bs p2 1)), .val (.int (own_c bs p2 2))] [(.int (2048 : Int32)), (.int (own_cp (own_cp (own_c bs p2 0 &&& (15 : Int32)) (own_c bs p2 1)) (own_c bs p2 2)))])
              by_cases hc252 : (own_cp (own_cp (own_c bs p2 0 &&& (15 : Int32)) (own_c bs p2 1)) (own_c bs p2 2)) < (2048 : Int32)
              · skip
                refine Rch.go (fun _ q => XS.icmpNo X0.here hx rfl (hb hby d5_252) rfl (tlt hc252).2.1 q) ?_
                show Rch p ev below _ s₁ (mkF m 255 #[.val (.ref a1), .val (.int p2), .val (.int p3), .val (.int (p3 - p2)), .val (.int (own_c bs p2 0)), .val (.int (3 : Int32)), .val (.int (own_cp (own_cp (own_c bs p2 0 &&& (15 : Int32)) (own_c bs p2 1)) (own_c bs p2 2))), .val (.int (2048 : Int32)), .val (.int (own_c bs p2 1)), .val (.int (own_c bs p2 2))] [])
                refine Rch.go (fun _ q => XS.iconst X0.here hx rfl (hb hby d5_255) q) ?_
                show Rch p ev below _ s₁ (mkF m 256 #[.val (.ref a1), .val (.int p2), .val (.int p3), .val (.int (p3 - p2)), .val (.int (own_c bs p2 0)), .val (.int (3 : Int32)), .val (.int (own_cp (own_cp (own_c bs p2 0 &&& (15 : Int32)) (own_c bs p2 1)) (own_c bs p2 2))), .val (.int (2048 : Int32)), .val (.int (own_c bs p2 1)), .val (.int (own_c bs p2 2))] [(.int (0 : Int32))])
                refine Rch.retI X0 hx hlk Bd.returns (hb hby d5_256) (by decide) (by decide) ?_
                unfold Qrm5
                exact ⟨by simp only [own_sq, own_sq2, own_sq3, own_sq4, own_chk, hc18, hc32, hc62, hc117, hc142, hc186, hc252, if_true, if_false], N0, e0⟩
              · skip
                refine Rch.go (fun _ q => XS.icmpYes X0.here hx rfl (pc0 := 252) (pc' := 257) rfl (hb hby d5_252) rfl (flt hc252).2.1 (by decide) (by decide) q) ?_
                show Rch p ev below _ s₁ (mkF m 257 #[.val (.ref a1), .val (.int p2), .val (.int p3), .val (.int (p3 - p2)), .val (.int (own_c bs p2 0)), .val (.int (3 : Int32)), .val (.int (own_cp (own_cp (own_c bs p2 0 &&& (15 : Int32)) (own_c bs p2 1)) (own_c bs p2 2))), .val (.int (2048 : Int32)), .val (.int (own_c bs p2 1)), .val (.int (own_c bs p2 2))] [])
                refine Rch.go (fun _ q => XS.iload X0.here hx rfl (hb hby d5_257) rfl  q) ?_
                show Rch p ev below _ s₁ (mkF m 259 #[.val (.ref a1), .val (.int p2), .val (.int p3), .val (.int (p3 - p2)), .val (.int (own_c bs p2 0)), .val (.int (3 : Int32)), .val (.int (own_cp (own_cp (own_c bs p2 0 &&& (15 : Int32)) (own_c bs p2 1)) (own_c bs p2 2))), .val (.int (2048 : Int32)), .val (.int (own_c bs p2 1)), .val (.int (own_c bs p2 2))] [(.int (own_cp (own_cp (own_c bs p2 0 &&& (15 : Int32)) (own_c bs p2 1)) (own_c bs p2 2)))])
                refine Rch.go (fun _ q => X0.ldcI hx (own := "com/example/slicewright/slicewright/runtime/Utf8WellFormedUpToPinLaw") hown (mvT hZ (hw _ (List.mem_of_getElem? (i := 22) rfl))) rfl (hb hby d5_259) q) ?_
                show Rch p ev below _ s₁ (mkF m 261 #[.val (.ref a1), .val (.int p2), .val (.int p3), .val (.int (p3 - p2)), .val (.int (own_c bs p2 0)), .val (.int (3 : Int32)), .val (.int (own_cp (own_cp (own_c bs p2 0 &&& (15 : Int32)) (own_c bs p2 1)) (own_c bs p2 2))), .val (.int (2048 : Int32)), .val (.int (own_c bs p2 1)), .val (.int (own_c bs p2 2))] [(.int (55296 : Int32)), (.int (own_cp (own_cp (own_c bs p2 0 &&& (15 : Int32)) (own_c bs p2 1)) (own_c bs p2 2)))])
                by_cases hc261 : (own_cp (own_cp (own_c bs p2 0 &&& (15 : Int32)) (own_c bs p2 1)) (own_c bs p2 2)) < (55296 : Int32)
                · skip
                  refine Rch.go (fun _ q => XS.icmpYes X0.here hx rfl (pc0 := 261) (pc' := 273) rfl (hb hby d5_261) rfl (tlt hc261).1 (by decide) (by decide) q) ?_
                  show Rch p ev below _ s₁ (mkF m 273 #[.val (.ref a1), .val (.int p2), .val (.int p3), .val (.int (p3 - p2)), .val (.int (own_c bs p2 0)), .val (.int (3 : Int32)), .val (.int (own_cp (own_cp (own_c bs p2 0 &&& (15 : Int32)) (own_c bs p2 1)) (own_c bs p2 2))), .val (.int (2048 : Int32)), .val (.int (own_c bs p2 1)), .val (.int (own_c bs p2 2))] [])
                  refine Rch.go (fun _ q => XS.iload X0.here hx rfl (hb hby d5_273) rfl  q) ?_
                  show Rch p ev below _ s₁ (mkF m 275 #[.val (.ref a1), .val (.int p2), .val (.int p3), .val (.int (p3 - p2)), .val (.int (own_c bs p2 0)), .val (.int (3 : Int32)), .val (.int (own_cp (own_cp (own_c bs p2 0 &&& (15 : Int32)) (own_c bs p2 1)) (own_c bs p2 2))), .val (.int (2048 : Int32)), .val (.int (own_c bs p2 1)), .val (.int (own_c bs p2 2))] [(.int (own_cp (own_cp (own_c bs p2 0 &&& (15 : Int32)) (own_c bs p2 1)) (own_c bs p2 2)))])
                  refine Rch.go (fun _ q => X0.ldcI hx (own := "com/example/slicewright/slicewright/runtime/Utf8WellFormedUpToPinLaw") hown (mvT hZ (hw _ (List.mem_of_getElem? (i := 23) rfl))) rfl (hb hby d5_275) q) ?_
                  show Rch p ev below _ s₁ (mkF m 277 #[.val (.ref a1), .val (.int p2), .val (.int p3), .val (.int (p3 - p2)), .val (.int (own_c bs p2 0)), .val (.int (3 : Int32)), .val (.int (own_cp (own_cp (own_c bs p2 0 &&& (15 : Int32)) (own_c bs p2 1)) (own_c bs p2 2))), .val (.int (2048 : Int32)), .val (.int (own_c bs p2 1)), .val (.int (own_c bs p2 2))] [(.int (1114111 : Int32)), (.int (own_cp (own_cp (own_c bs p2 0 &&& (15 : Int32)) (own_c bs p2 1)) (own_c bs p2 2)))])
                  by_cases hc277 : (1114111 : Int32) < (own_cp (own_cp (own_c bs p2 0 &&& (15 : Int32)) (own_c bs p2 1)) (own_c bs p2 2))
                  · skip
                    refine Rch.go (fun _ q => XS.icmpNo X0.here hx rfl (hb hby d5_277) rfl (tlt hc277).2.2.2 q) ?_
                    show Rch p ev below _ s₁ (mkF m 280 #[.val (.ref a1), .val (.int p2), .val (.int p3), .val (.int (p3 - p2)), .val (.int (own_c bs p2 0)), .val (.int (3 : Int32)), .val (.int (own_cp (own_cp (own_c bs p2 0 &&& (15 : Int32)) (own_c bs p2 1)) (own_c bs p2 2))), .val (.int (2048 : Int32)), .val (.int (own_c bs p2 1)), .val (.int (own_c bs p2 2))] [])
                    refine Rch.go (fun _ q => XS.iconst X0.here hx rfl (hb hby d5_280) q) ?_
                    show Rch p ev below _ s₁ (mkF m 281 #[.val (.ref a1), .val (.int p2), .val (.int p3), .val (.int (p3 - p2)), .val (.int (own_c bs p2 0)), .val (.int (3 : Int32)), .val (.int (own_cp (own_cp (own_c bs p2 0 &&& (15 : Int32)) (own_c bs p2 1)) (own_c bs p2 2))), .val (.int (2048 : Int32)), .val (.int (own_c bs p2 1)), .val (.int (own_c bs p2 2))] [(.int (0 : Int32))])
                    refine Rch.retI X0 hx hlk Bd.returns (hb hby d5_281) (by decide) (by decide) ?_
                    unfold Qrm5
                    exact ⟨by simp only [own_sq, own_sq2, own_sq3, own_sq4, own_chk, hc18, hc32, hc62, hc117, hc142, hc186, hc252, hc261, hc277, if_true, if_false], N0, e0⟩
                  · skip
                    refine Rch.go (fun _ q => XS.icmpYes X0.here hx rfl (pc0 := 277) (pc' := 282) rfl (hb hby d5_277) rfl (flt hc277).2.2.2 (by decide) (by decide) q) ?_
                    show Rch p ev below _ s₁ (mkF m 282 #[.val (.ref a1), .val (.int p2), .val (.int p3), .val (.int (p3 - p2)), .val (.int (own_c bs p2 0)), .val (.int (3 : Int32)), .val (.int (own_cp (own_cp (own_c bs p2 0 &&& (15 : Int32)) (own_c bs p2 1)) (own_c bs p2 2))), .val (.int (2048 : Int32)), .val (.int (own_c bs p2 1)), .val (.int (own_c bs p2 2))] [])
                    refine Rch.go (fun _ q => XS.iload X0.here hx rfl (hb hby d5_282) rfl  q) ?_
                    show Rch p ev below _ s₁ (mkF m 284 #[.val (.ref a1), .val (.int p2), .val (.int p3), .val (.int (p3 - p2)), .val (.int (own_c bs p2 0)), .val (.int (3 : Int32)), .val (.int (own_cp (own_cp (own_c bs p2 0 &&& (15 : Int32)) (own_c bs p2 1)) (own_c bs p2 2))), .val (.int (2048 : Int32)), .val (.int (own_c bs p2 1)), .val (.int (own_c bs p2 2))] [(.int (3 : Int32))])
                    refine Rch.retI X0 hx hlk Bd.returns (hb hby d5_284) (by decide) (by decide) ?_
                    unfold Qrm5
                    exact ⟨by simp only [own_sq, own_sq2, own_sq3, own_sq4, own_chk, hc18, hc32, hc62, hc117, hc142, hc186, hc252, hc261, hc277, if_true, if_false], N0, e0⟩
                · skip
                  refine Rch.go (fun _ q => XS.icmpNo X0.here hx rfl (hb hby d5_261) rfl (flt hc261).1 q) ?_
                  show Rch p ev below _ s₁ (mkF m 264 #[.val (.ref a1), .val (.int p2), .val (.int p3), .val (.int (p3 - p2)), .val (.int (own_c bs p2 0)), .val (.int (3 : Int32)), .val (.int (own_cp (own_cp (own_c bs p2 0 &&& (15 : Int32)) (own_c bs p2 1)) (own_c bs p2 2))), .val (.int (2048 : Int32)), .val (.int (own_c bs p2 1)), .val (.int (own_c bs p2 2))] [])
                  refine Rch.go (fun _ q => XS.iload X0.here hx rfl (hb hby d5_264) rfl  q) ?_
                  show Rch p ev below _ s₁ (mkF m 266 #[.val (.ref a1), .val (.int p2), .val (.int p3), .val (.int (p3 - p2)), .val (.int (own_c bs p2 0)), .val (.int (3 : Int32)), .val (.int (own_cp (own_cp (own_c bs p2 0 &&& (15 : Int32)) (own_c bs p2 1)) (own_c bs p2 2))), .val (.int (2048 : Int32)), .val (.int (own_c bs p2 1)), .val (.int (own_c bs p2 2))] [(.int (own_cp (own_cp (own_c bs p2 0 &&& (15 : Int32)) (own_c bs p2 1)) (own_c bs p2 2)))])
                  refine Rch.go (fun _ q => X0.ldcI hx (own := "com/example/slicewright/slicewright/runtime/Utf8WellFormedUpToPinLaw") hown (mvT hZ (hw _ (List.mem_of_getElem? (i := 25) rfl))) rfl (hb hby d5_266) q) ?_
                  show Rch p ev below _ s₁ (mkF m 268 #[.val (.ref a1), .val (.int p2), .val (.int p3), .val (.int (p3 - p2)), .val (.int (own_c bs p2 0)), .val (.int (3 : Int32)), .val (.int (own_cp (own_cp (own_c bs p2 0 &&& (15 : Int32)) (own_c bs p2 1)) (own_c bs p2 2))), .val (.int (2048 : Int32)), .val (.int (own_c bs p2 1)), .val (.int (own_c bs p2 2))] [(.int (57343 : Int32)), (.int (own_cp (own_cp (own_c bs p2 0 &&& (15 : Int32)) (own_c bs p2 1)) (own_c bs p2 2)))])
                  by_cases hc268 : (57343 : Int32) < (own_cp (own_cp (own_c bs p2 0 &&& (15 : Int32)) (own_c bs p2 1)) (own_c bs p2 2))
                  · skip
                    refine Rch.go (fun _ q => XS.icmpYes X0.here hx rfl (pc0 := 268) (pc' := 273) rfl (hb hby d5_268) rfl (tlt hc268).2.2.1 (by decide) (by decide) q) ?_
                    show Rch p ev below _ s₁ (mkF m 273 #[.val (.ref a1), .val (.int p2), .val (.int p3), .val (.int (p3 - p2)), .val (.int (own_c bs p2 0)), .val (.int (3 : Int32)), .val (.int (own_cp (own_cp (own_c bs p2 0 &&& (15 : Int32)) (own_c bs p2 1)) (own_c bs p2 2))), .val (.int (2048 : Int32)), .val (.int (own_c bs p2 1)), .val (.int (own_c bs p2 2))] [])
                    refine Rch.go (fun _ q => XS.iload X0.here hx rfl (hb hby d5_273) rfl  q) ?_
                    show Rch p ev below _ s₁ (mkF m 275 #[.val (.ref a1), .val (.int p2), .val (.int p3), .val (.int (p3 - p2)), .val (.int (own_c bs p2 0)), .val (.int (3 : Int32)), .val (.int (own_cp (own_cp (own_c bs p2 0 &&& (15 : Int32)) (own_c bs p2 1)) (own_c bs p2 2))), .val (.int (2048 : Int32)), .val (.int (own_c bs p2 1)), .val (.int (own_c bs p2 2))] [(.int (own_cp (own_cp (own_c bs p2 0 &&& (15 : Int32)) (own_c bs p2 1)) (own_c bs p2 2)))])
                    refine Rch.go (fun _ q => X0.ldcI hx (own := "com/example/slicewright/slicewright/runtime/Utf8WellFormedUpToPinLaw") hown (mvT hZ (hw _ (List.mem_of_getElem? (i := 23) rfl))) rfl (hb hby d5_275) q) ?_
                    show Rch p ev below _ s₁ (mkF m 277 #[.val (.ref a1), .val (.int p2), .val (.int p3), .val (.int (p3 - p2)), .val (.int (own_c bs p2 0)), .val (.int (3 : Int32)), .val (.int (own_cp (own_cp (own_c bs p2 0 &&& (15 : Int32)) (own_c bs p2 1)) (own_c bs p2 2))), .val (.int (2048 : Int32)), .val (.int (own_c bs p2 1)), .val (.int (own_c bs p2 2))] [(.int (1114111 : Int32)), (.int (own_cp (own_cp (own_c bs p2 0 &&& (15 : Int32)) (own_c bs p2 1)) (own_c bs p2 2)))])
                    by_cases hc277 : (1114111 : Int32) < (own_cp (own_cp (own_c bs p2 0 &&& (15 : Int32)) (own_c bs p2 1)) (own_c bs p2 2))
                    · skip
                      refine Rch.go (fun _ q => XS.icmpNo X0.here hx rfl (hb hby d5_277) rfl (tlt hc277).2.2.2 q) ?_
                      show Rch p ev below _ s₁ (mkF m 280 #[.val (.ref a1), .val (.int p2), .val (.int p3), .val (.int (p3 - p2)), .val (.int (own_c bs p2 0)), .val (.int (3 : Int32)), .val (.int (own_cp (own_cp (own_c bs p2 0 &&& (15 : Int32)) (own_c bs p2 1)) (own_c bs p2 2))), .val (.int (2048 : Int32)), .val (.int (own_c bs p2 1)), .val (.int (own_c bs p2 2))] [])
                      refine Rch.go (fun _ q => XS.iconst X0.here hx rfl (hb hby d5_280) q) ?_
                      show Rch p ev below _ s₁ (mkF m 281 #[.val (.ref a1), .val (.int p2), .val (.int p3), .val (.int (p3 - p2)), .val (.int (own_c bs p2 0)), .val (.int (3 : Int32)), .val (.int (own_cp (own_cp (own_c bs p2 0 &&& (15 : Int32)) (own_c bs p2 1)) (own_c bs p2 2))), .val (.int (2048 : Int32)), .val (.int (own_c bs p2 1)), .val (.int (own_c bs p2 2))] [(.int (0 : Int32))])
                      refine Rch.retI X0 hx hlk Bd.returns (hb hby d5_281) (by decide) (by decide) ?_
                      unfold Qrm5
                      exact ⟨by simp only [own_sq, own_sq2, own_sq3, own_sq4, own_chk, hc18, hc32, hc62, hc117, hc142, hc186, hc252, hc261, hc268, hc277, if_true, if_false], N0, e0⟩
                    · skip
                      refine Rch.go (fun _ q => XS.icmpYes X0.here hx rfl (pc0 := 277) (pc' := 282) rfl (hb hby d5_277) rfl (flt hc277).2.2.2 (by decide) (by decide) q) ?_
                      show Rch p ev below _ s₁ (mkF m 282 #[.val (.ref a1), .val (.int p2), .val (.int p3), .val (.int (p3 - p2)), .val (.int (own_c bs p2 0)), .val (.int (3 : Int32)), .val (.int (own_cp (own_cp (own_c bs p2 0 &&& (15 : Int32)) (own_c bs p2 1)) (own_c bs p2 2))), .val (.int (2048 : Int32)), .val (.int (own_c bs p2 1)), .val (.int (own_c bs p2 2))] [])
                      refine Rch.go (fun _ q => XS.iload X0.here hx rfl (hb hby d5_282) rfl  q) ?_
                      show Rch p ev below _ s₁ (mkF m 284 #[.val (.ref a1), .val (.int p2), .val (.int p3), .val (.int (p3 - p2)), .val (.int (own_c bs p2 0)), .val (.int (3 : Int32)), .val (.int (own_cp (own_cp (own_c bs p2 0 &&& (15 : Int32)) (own_c bs p2 1)) (own_c bs p2 2))), .val (.int (2048 : Int32)), .val (.int (own_c bs p2 1)), .val (.int (own_c bs p2 2))] [(.int (3 : Int32))])
                      refine Rch.retI X0 hx hlk Bd.returns (hb hby d5_284) (by decide) (by decide) ?_
                      unfold Qrm5
                      exact ⟨by simp only [own_sq, own_sq2, own_sq3, own_sq4, own_chk, hc18, hc32, hc62, hc117, hc142, hc186, hc252, hc261, hc268, hc277, if_true, if_false], N0, e0⟩
                  · skip
                    refine Rch.go (fun _ q => XS.icmpNo X0.here hx rfl (hb hby d5_268) rfl (flt hc268).2.2.1 q) ?_
                    show Rch p ev below _ s₁ (mkF m 271 #[.val (.ref a1), .val (.int p2), .val (.int p3), .val (.int (p3 - p2)), .val (.int (own_c bs p2 0)), .val (.int (3 : Int32)), .val (.int (own_cp (own_cp (own_c bs p2 0 &&& (15 : Int32)) (own_c bs p2 1)) (own_c bs p2 2))), .val (.int (2048 : Int32)), .val (.int (own_c bs p2 1)), .val (.int (own_c bs p2 2))] [])
                    refine Rch.go (fun _ q => XS.iconst X0.here hx rfl (hb hby d5_271) q) ?_
                    show Rch p ev below _ s₁ (mkF m 272 #[.val (.ref a1), .val (.int p2), .val (.int p3), .val (.int (p3 - p2)), .val (.int (own_c bs p2 0)), .val (.int (3 : Int32)), .val (.int (own_cp (own_cp (own_c bs p2 0 &&& (15 : Int32)) (own_c bs p2 1)) (own_c bs p2 2))), .val (.int (2048 : Int32)), .val (.int (own_c bs p2 1)), .val (.int (own_c bs p2 2))] [(.int (0 : Int32))])
                    refine Rch.retI X0 hx hlk Bd.returns (hb hby d5_272) (by decide) (by decide) ?_
                    unfold Qrm5
                    exact ⟨by simp only [own_sq, own_sq2, own_sq3, own_sq4, own_chk, hc18, hc32, hc62, hc117, hc142, hc186, hc252, hc261, hc268, if_true, if_false], N0, e0⟩
            · skip
              refine Rch.go (fun _ q => XS.icmpNo X0.here hx rfl (hb hby d5_186) rfl (feq hc186).1 q) ?_
              show Rch p ev below _ s₁ (mkF m 189 #[.val (.ref a1), .val (.int p2), .val (.int p3), .val (.int (p3 - p2)), .val (.int (own_c bs p2 0)), .val (.int (3 : Int32)), .val (.int (own_cp (own_c bs p2 0 &&& (15 : Int32)) (own_c bs p2 1))), .val (.int (2048 : Int32)), .val (.int (own_c bs p2 1)), .val (.int (own_c bs p2 2))] [])
              refine Rch.go (fun _ q => XS.iconst X0.here hx rfl (hb hby d5_189) q) ?_
              show Rch p ev below _ s₁ (mkF m 190 #[.val (.ref a1), .val (.int p2), .val (.int p3), .val (.int (p3 - p2)), .val (.int (own_c bs p2 0)), .val (.int (3 : Int32)), .val (.int (own_cp (own_c bs p2 0 &&& (15 : Int32)) (own_c bs p2 1))), .val (.int (2048 : Int32)), .val (.int (own_c bs p2 1)), .val (.int (own_c bs p2 2))] [(.int (0 : Int32))])
              refine Rch.retI X0 hx hlk Bd.returns (hb hby d5_190) (by decide) (by decide) ?_
              unfold Qrm5
              exact ⟨by simp only [own_sq, own_sq2, own_sq3, own_sq4, own_chk, hc18, hc32, hc62, hc117, hc142, hc186, if_true, if_false], N0, e0⟩
          · skip
            refine Rch.go (fun _ q => XS.icmpNo X0.here hx rfl (hb hby d5_142) rfl (feq hc142).1 q) ?_
            show Rch p ev below _ s₁ (mkF m 145 #[.val (.ref a1), .val (.int p2), .val (.int p3), .val (.int (p3 - p2)), .val (.int (own_c bs p2 0)), .val (.int (3 : Int32)), .val (.int ((own_c bs p2 0) &&& (15 : Int32))), .val (.int (2048 : Int32)), .val (.int (own_c bs p2 1)), .unset] [])
            refine Rch.go (fun _ q => XS.iconst X0.here hx rfl (hb hby d5_145) q) ?_
            show Rch p ev below _ s₁ (mkF m 146 #[.val (.ref a1), .val (.int p2), .val (.int p3), .val (.int (p3 - p2)), .val (.int (own_c bs p2 0)), .val (.int (3 : Int32)), .val (.int ((own_c bs p2 0) &&& (15 : Int32))), .val (.int (2048 : Int32)), .val (.int (own_c bs p2 1)), .unset] [(.int (0 : Int32))])
            refine Rch.retI X0 hx hlk Bd.returns (hb hby d5_146) (by decide) (by decide) ?_
            unfold Qrm5
            exact ⟨by simp only [own_sq, own_sq2, own_sq3, own_sq4, own_chk, hc18, hc32, hc62, hc117, hc142, if_true, if_false], N0, e0⟩
      · skip
        refine Rch.go (fun _ q => XS.icmpYes X0.here hx rfl (pc0 := 62) (pc' := 83) rfl (hb hby d5_62) rfl (feq hc62).2 (by decide) (by decide) q) ?_
        show Rch p ev below _ s₁ (mkF m 83 #[.val (.ref a1), .val (.int p2), .val (.int p3), .val (.int (p3 - p2)), .val (.int (own_c bs p2 0)), .unset, .unset, .unset, .unset, .unset] [])
        refine Rch.go (fun _ q => XS.iload X0.here hx rfl (hb hby d5_83) rfl  q) ?_
        show Rch p ev below _ s₁ (mkF m 85 #[.val (.ref a1), .val (.int p2), .val (.int p3), .val (.int (p3 - p2)), .val (.int (own_c bs p2 0)), .unset, .unset, .unset, .unset, .unset] [(.int (own_c bs p2 0))])
        refine Rch.go (fun _ q => XS.sipush X0.here hx rfl (hb hby d5_85) q) ?_
        show Rch p ev below _ s₁ (mkF m 88 #[.val (.ref a1), .val (.int p2), .val (.int p3), .val (.int (p3 - p2)), .val (.int (own_c bs p2 0)), .unset, .unset, .unset, .unset, .unset] [(.int (248 : Int32)), (.int (own_c bs p2 0))])
        refine Rch.go (fun _ q => XS.iand X0.here hx rfl (hb hby d5_88) rfl q) ?_
        show Rch p ev below _ s₁ (mkF m 89 #[.val (.ref a1), .val (.int p2), .val (.int p3), .val (.int (p3 - p2)), .val (.int (own_c bs p2 0)), .unset, .unset, .unset, .unset, .unset] [(.int ((own_c bs p2 0) &&& (248 : Int32)))])
        refine Rch.go (fun _ q => XS.sipush X0.here hx rfl (hb hby d5_89) q) ?_
        show Rch p ev below _ s₁ (mkF m 92 #[.val (.ref a1), .val (.int p2), .val (.int p3), .val (.int (p3 - p2)), .val (.int (own_c bs p2 0)), .unset, .unset, .unset, .unset, .unset] [(.int (240 : Int32)), (.int ((own_c bs p2 0) &&& (248 : Int32)))])
        by_cases hc92 : ((own_c bs p2 0) &&& (248 : Int32)) = (240 : Int32)
        · skip
          refine Rch.go (fun _ q => XS.icmpNo X0.here hx rfl (hb hby d5_92) rfl (teq hc92).2 q) ?_
          show Rch p ev below _ s₁ (mkF m 95 #[.val (.ref a1), .val (.int p2), .val (.int p3), .val (.int (p3 - p2)), .val (.int (own_c bs p2 0)), .unset, .unset, .unset, .unset, .unset] [])
          refine Rch.go (fun _ q => XS.iconst X0.here hx rfl (hb hby d5_95) q) ?_
          show Rch p ev below _ s₁ (mkF m 96 #[.val (.ref a1), .val (.int p2), .val (.int p3), .val (.int (p3 - p2)), .val (.int (own_c bs p2 0)), .unset, .unset, .unset, .unset, .unset] [(.int (4 : Int32))])
          refine Rch.go (fun _ q => XS.istore X0.here hx rfl (hb hby d5_96) rfl (l' := #[.val (.ref a1), .val (.int p2), .val (.int p3), .val (.int (p3 - p2)), .val (.int (own_c bs p2 0)), .val (.int (4 : Int32)), .unset, .unset, .unset, .unset]) rfl q) ?_
          show Rch p ev below _ s₁ (mkF m 98 #[.val (.ref a1), .val (.int p2), .val (.int p3), .val (.int (p3 - p2)), .val (.int (own_c bs p2 0)), .val (.int (4 : Int32)), .unset, .unset, .unset, .unset] [])
          refine Rch.go (fun _ q => XS.iload X0.here hx rfl (hb hby d5_98) rfl  q) ?_
          show Rch p ev below _ s₁ (mkF m 100 #[.val (.ref a1), .val (.int p2), .val (.int p3), .val (.int (p3 - p2)), .val (.int (own_c bs p2 0)), .val (.int (4 : Int32)), .unset, .unset, .unset, .unset] [(.int (own_c bs p2 0))])
          refine Rch.go (fun _ q => XS.bipush X0.here hx rfl (hb hby d5_100) q) ?_
          show Rch p ev below _ s₁ (mkF m 102 #[.val (.ref a1), .val (.int p2), .val (.int p3), .val (.int (p3 - p2)), .val (.int (own_c bs p2 0)), .val (.int (4 : Int32)), .unset, .unset, .unset, .unset] [(.int (7 : Int32)), (.int (own_c bs p2 0))])
          refine Rch.go (fun _ q => XS.iand X0.here hx rfl (hb hby d5_102) rfl q) ?_
          show Rch p ev below _ s₁ (mkF m 103 #[.val (.ref a1), .val (.int p2), .val (.int p3), .val (.int (p3 - p2)), .val (.int (own_c bs p2 0)), .val (.int (4 : Int32)), .unset, .unset, .unset, .unset] [(.int ((own_c bs p2 0) &&& (7 : Int32)))])
          refine Rch.go (fun _ q => XS.istore X0.here hx rfl (hb hby d5_103) rfl (l' := #[.val (.ref a1), .val (.int p2), .val (.int p3), .val (.int (p3 - p2)), .val (.int (own_c bs p2 0)), .val (.int (4 : Int32)), .val (.int ((own_c bs p2 0) &&& (7 : Int32))), .unset, .unset, .unset]) rfl q) ?_
          show Rch p ev below _ s₁ (mkF m 105 #[.val (.ref a1), .val (.int p2), .val (.int p3), .val (.int (p3 - p2)), .val (.int (own_c bs p2 0)), .val (.int (4 : Int32)), .val (.int ((own_c bs p2 0) &&& (7 : Int32))), .unset, .unset, .unset] [])
          refine Rch.go (fun _ q => X0.ldcI hx (own := "com/example/slicewright/slicewright/runtime/Utf8WellFormedUpToPinLaw") hown (mvT hZ (hw _ (List.mem_of_getElem? (i := 24) rfl))) rfl (hb hby d5_105) q) ?_
          show Rch p ev below _ s₁ (mkF m 107 #[.val (.ref a1), .val (.int p2), .val (.int p3), .val (.int (p3 - p2)), .val (.int (own_c bs p2 0)), .val (.int (4 : Int32)), .val (.int ((own_c bs p2 0) &&& (7 : Int32))), .unset, .unset, .unset] [(.int (65536 : Int32))])
          refine Rch.go (fun _ q => XS.istore X0.here hx rfl (hb hby d5_107) rfl (l' := #[.val (.ref a1), .val (.int p2), .val (.int p3), .val (.int (p3 - p2)), .val (.int (own_c bs p2 0)), .val (.int (4 : Int32)), .val (.int ((own_c bs p2 0) &&& (7 : Int32))), .val (.int (65536 : Int32)), .unset, .unset]) rfl q) ?_
          show Rch p ev below _ s₁ (mkF m 109 #[.val (.ref a1), .val (.int p2), .val (.int p3), .val (.int (p3 - p2)), .val (.int (own_c bs p2 0)), .val (.int (4 : Int32)), .val (.int ((own_c bs p2 0) &&& (7 : Int32))), .val (.int (65536 : Int32)), .unset, .unset] [])
          refine Rch.go (fun _ q => XS.goto X0.here hx rfl (pc0 := 109) (pc' := 114) rfl (hb hby d5_109) (by decide) (by decide) q) ?_
          show Rch p ev below _ s₁ (mkF m 114 #[.val (.ref a1), .val (.int p2), .val (.int p3), .val (.int (p3 - p2)), .val (.int (own_c bs p2 0)), .val (.int (4 : Int32)), .val (.int ((own_c bs p2 0) &&& (7 : Int32))), .val (.int (65536 : Int32)), .unset, .unset] [])
          refine Rch.go (fun _ q => XS.iload X0.here hx rfl (hb hby d5_114) rfl  q) ?_
          show Rch p ev below _ s₁ (mkF m 116 #[.val (.ref a1), .val (.int p2), .val (.int p3), .val (.int (p3 - p2)), .val (.int (own_c bs p2 0)), .val (.int (4 : Int32)), .val (.int ((own_c bs p2 0) &&& (7 : Int32))), .val (.int (65536 : Int32)), .unset, .unset] [(.int (4 : Int32))])
          refine Rch.go (fun _ q => XS.iloadN X0.here hx rfl (hb hby d5_116) rfl  q) ?_
          show Rch p ev below _ s₁ (mkF m 117 #[.val (.ref a1), .val (.int p2), .val (.int p3), .val (.int (p3 - p2)), .val (.int (own_c bs p2 0)), .val (.int (4 : Int32)), .val (.int ((own_c bs p2 0) &&& (7 : Int32))), .val (.int (65536 : Int32)), .unset, .unset] [(.int (p3 - p2)), (.int (4 : Int32))])
          by_cases hc117 : (p3 - p2) < (4 : Int32)
          · skip
            refine Rch.go (fun _ q => XS.icmpNo X0.here hx rfl (hb hby d5_117) rfl (tlt hc117).2.2.2 q) ?_
            show Rch p ev below _ s₁ (mkF m 120 #[.val (.ref a1), .val (.int p2), .val (.int p3), .val (.int (p3 - p2)), .val (.int (own_c bs p2 0)), .val (.int (4 : Int32)), .val (.int ((own_c bs p2 0) &&& (7 : Int32))), .val (.int (65536 : Int32)), .unset, .unset] [])
            refine Rch.go (fun _ q => XS.iconst X0.here hx rfl (hb hby d5_120) q) ?_
            show Rch p ev below _ s₁ (mkF m 121 #[.val (.ref a1), .val (.int p2), .val (.int p3), .val (.int (p3 - p2)), .val (.int (own_c bs p2 0)), .val (.int (4 : Int32)), .val (.int ((own_c bs p2 0) &&& (7 : Int32))), .val (.int (65536 : Int32)), .unset, .unset] [(.int (0 : Int32))])
            refine Rch.retI X0 hx hlk Bd.returns (hb hby d5_121) (by decide) (by decide) ?_
            unfold Qrm5
            exact ⟨by simp only [own_sq, own_sq2, own_sq3, own_sq4, own_chk, hc18, hc32, hc62, hc92, hc117, if_true, if_false], N0, e0⟩
          · skip
            refine Rch.go (fun _ q => XS.icmpYes X0.here hx rfl (pc0 := 117) (pc' := 122) rfl (hb hby d5_117) rfl (flt hc117).2.2.2 (by decide) (by decide) q) ?_
            show Rch p ev below _ s₁ (mkF m 122 #[.val (.ref a1), .val (.int p2), .val (.int p3), .val (.int (p3 - p2)), .val (.int (own_c bs p2 0)), .val (.int (4 : Int32)), .val (.int ((own_c bs p2 0) &&& (7 : Int32))), .val (.int (65536 : Int32)), .unset, .unset] [])
            have kn : (4 : Int32).toInt = 4 := rfl
            have hav : p2.toInt + 4 ≤ p3.toInt := by rw [Int32.lt_iff_toInt_lt] at hc117; omega
            refine Rch.go (fun _ q => XS.aloadN X0.here hx rfl (hb hby d5_122) rfl rfl q) ?_
            show Rch p ev below _ s₁ (mkF m 123 #[.val (.ref a1), .val (.int p2), .val (.int p3), .val (.int (p3 - p2)), .val (.int (own_c bs p2 0)), .val (.int (4 : Int32)), .val (.int ((own_c bs p2 0) &&& (7 : Int32))), .val (.int (65536 : Int32)), .unset, .unset] [(.ref a1)])
            refine Rch.go (fun _ q => XS.iloadN X0.here hx rfl (hb hby d5_123) rfl  q) ?_
            show Rch p ev below _ s₁ (mkF m 124 #[.val (.ref a1), .val (.int p2), .val (.int p3), .val (.int (p3 - p2)), .val (.int (own_c bs p2 0)), .val (.int (4 : Int32)), .val (.int ((own_c bs p2 0) &&& (7 : Int32))), .val (.int (65536 : Int32)), .unset, .unset] [(.int p2), (.ref a1)])
            refine Rch.go (fun _ q => XS.iconst X0.here hx rfl (hb hby d5_124) q) ?_
            show Rch p ev below _ s₁ (mkF m 125 #[.val (.ref a1), .val (.int p2), .val (.int p3), .val (.int (p3 - p2)), .val (.int (own_c bs p2 0)), .val (.int (4 : Int32)), .val (.int ((own_c bs p2 0) &&& (7 : Int32))), .val (.int (65536 : Int32)), .unset, .unset] [(.int (1 : Int32)), (.int p2), (.ref a1)])
            refine Rch.go (fun _ q => XS.iadd X0.here hx rfl (hb hby d5_125) rfl q) ?_
            show Rch p ev below _ s₁ (mkF m 126 #[.val (.ref a1), .val (.int p2), .val (.int p3), .val (.int (p3 - p2)), .val (.int (own_c bs p2 0)), .val (.int (4 : Int32)), .val (.int ((own_c bs p2 0) &&& (7 : Int32))), .val (.int (65536 : Int32)), .unset, .unset] [(.int (p2 + (1 : Int32))), (.ref a1)])
            refine Rch.go (fun _ q => ldB X0 hx hZ e0 V1 (j := (p2 + (1 : Int32))) (v := (.int (bs.getD (p2.toNatClampNeg + 1) 0))) (own_jk p2 (1 : Int32) 1 rfl hi0 (by omega)).1 (by rw [(own_jk p2 (1 : Int32) 1 rfl hi0 (by omega)).2]; exact own_rd bs _) (g := (mkF m 126 #[.val (.ref a1), .val (.int p2), .val (.int p3), .val (.int (p3 - p2)), .val (.int (own_c bs p2 0)), .val (.int (4 : Int32)), .val (.int ((own_c bs p2 0) &&& (7 : Int32))), .val (.int (65536 : Int32)), .unset, .unset] [(.int (p2 + (1 : Int32))), (.ref a1)])) rfl rfl (hb hby d5_126) _ q) ?_
            show Rch p ev below _ s₁ (mkF m 127 #[.val (.ref a1), .val (.int p2), .val (.int p3), .val (.int (p3 - p2)), .val (.int (own_c bs p2 0)), .val (.int (4 : Int32)), .val (.int ((own_c bs p2 0) &&& (7 : Int32))), .val (.int (65536 : Int32)), .unset, .unset] [(.int (bs.getD (p2.toNatClampNeg + 1) 0))])
            refine Rch.go (fun _ q => XS.sipush X0.here hx rfl (hb hby d5_127) q) ?_
            show Rch p ev below _ s₁ (mkF m 130 #[.val (.ref a1), .val (.int p2), .val (.int p3), .val (.int (p3 - p2)), .val (.int (own_c bs p2 0)), .val (.int (4 : Int32)), .val (.int ((own_c bs p2 0) &&& (7 : Int32))), .val (.int (65536 : Int32)), .unset, .unset] [(.int (255 : Int32)), (.int (bs.getD (p2.toNatClampNeg + 1) 0))])
            refine Rch.go (fun _ q => XS.iand X0.here hx rfl (hb hby d5_130) rfl q) ?_
            show Rch p ev below _ s₁ (mkF m 131 #[.val (.ref a1), .val (.int p2), .val (.int p3), .val (.int (p3 - p2)), .val (.int (own_c bs p2 0)), .val (.int (4 : Int32)), .val (.int ((own_c bs p2 0) &&& (7 : Int32))), .val (.int (65536 : Int32)), .unset, .unset] [(.int ((bs.getD (p2.toNatClampNeg + 1) 0) &&& (255 : Int32)))])
            refine Rch.go (fun _ q => XS.istore X0.here hx rfl (hb hby d5_131) rfl (l' := #[.val (.ref a1), .val (.int p2), .val (.int p3), .val (.int (p3 - p2)), .val (.int (own_c bs p2 0)), .val (.int (4 : Int32)), .val (.int ((own_c bs p2 0) &&& (7 : Int32))), .val (.int (65536 : Int32)), .val (.int ((bs.getD (p2.toNatClampNeg + 1) 0) &&& (255 : Int32))), .unset]) rfl q) ?_
            show Rch p ev below _ s₁ (mkF m 133 #[.val (.ref a1), .val (.int p2), .val (.int p3), .val (.int (p3 - p2)), .val (.int (own_c bs p2 0)), .val (.int (4 : Int32)), .val (.int ((own_c bs p2 0) &&& (7 : Int32))), .val (.int (65536 : Int32)), .val (.int ((bs.getD (p2.toNatClampNeg + 1) 0) &&& (255 : Int32))), .unset] [])
            show Rch p ev below _ s₁ (mkF m 133 #[.val (.ref a1), .val (.int p2), .val (.int p3), .val (.int (p3 - p2)), .val (.int (own_c bs p2 0)), .val (.int (4 : Int32)), .val (.int ((own_c bs p2 0) &&& (7 : Int32))), .val (.int (65536 : Int32)), .val (.int (own_c bs p2 1)), .unset] [])
            refine Rch.go (fun _ q => XS.iload X0.here hx rfl (hb hby d5_133) rfl  q) ?_
            show Rch p ev below _ s₁ (mkF m 135 #[.val (.ref a1), .val (.int p2), .val (.int p3), .val (.int (p3 - p2)), .val (.int (own_c bs p2 0)), .val (.int (4 : Int32)), .val (.int ((own_c bs p2 0) &&& (7 : Int32))), .val (.int (65536 : Int32)), .val (.int (own_c bs p2 1)), .unset] [(.int (own_c bs p2 1))])
            refine Rch.go (fun _ q => XS.sipush X0.here hx rfl (hb hby d5_135) q) ?_
            show Rch p ev below _ s₁ (mkF m 138 #[.val (.ref a1), .val (.int p2), .val (.int p3), .val (.int (p3 - p2)), .val (.int (own_c bs p2 0)), .val (.int (4 : Int32)), .val (.int ((own_c bs p2 0) &&& (7 : Int32))), .val (.int (65536 : Int32)), .val (.int (own_c bs p2 1)), .unset] [(.int (192 : Int32)), (.int (own_c bs p2 1))])
            refine Rch.go (fun _ q => XS.iand X0.here hx rfl (hb hby d5_138) rfl q) ?_
            show Rch p ev below _ s₁ (mkF m 139 #[.val (.ref a1), .val (.int p2), .val (.int p3), .val (.int (p3 - p2)), .val (.int (own_c bs p2 0)), .val (.int (4 : Int32)), .val (.int ((own_c bs p2 0) &&& (7 : Int32))), .val (.int (65536 : Int32)), .val (.int (own_c bs p2 1)), .unset] [(.int ((own_c bs p2 1) &&& (192 : Int32)))])
            refine Rch.go (fun _ q => XS.sipush X0.here hx rfl (hb hby d5_139) q) ?_
            show Rch p ev below _ s₁ (mkF m 142 #[.val (.ref a1), .val (.int p2), .val (.int p3), .val (.int (p3 - p2)), .val (.int (own_c bs p2 0)), .val (.int (4 : Int32)), .val (.int ((own_c bs p2 0) &&& (7 : Int32))), .val (.int (65536 : Int32)), .val (.int (own_c bs p2 1)), .unset] [(.int (128 : Int32)), (.int ((own_c bs p2 1) &&& (192 : Int32)))])
            by_cases hc142 : ((own_c bs p2 1) &&& (192 : Int32)) = (128 : Int32)
            · skip
              refine Rch.go (fun _ q => XS.icmpYes X0.here hx rfl (pc0 := 142) (pc' := 147) rfl (hb hby d5_142) rfl (teq hc142).1 (by decide) (by decide) q) ?_
              show Rch p ev below _ s₁ (mkF m 147 #[.val (.ref a1), .val (.int p2), .val (.int p3), .val (.int (p3 - p2)), .val (.int (own_c bs p2 0)), .val (.int (4 : Int32)), .val (.int ((own_c bs p2 0) &&& (7 : Int32))), .val (.int (65536 : Int32)), .val (.int (own_c bs p2 1)), .unset] [])
              refine Rch.go (fun _ q => XS.iload X0.here hx rfl (hb hby d5_147) rfl  q) ?_
              show Rch p ev below _ s₁ (mkF m 149 #[.val (.ref a1), .val (.int p2), .val (.int p3), .val (.int (p3 - p2)), .val (.int (own_c bs p2 0)), .val (.int (4 : Int32)), .val (.int ((own_c bs p2 0) &&& (7 : Int32))), .val (.int (65536 : Int32)), .val (.int (own_c bs p2 1)), .unset] [(.int ((own_c bs p2 0) &&& (7 : Int32)))])
              refine Rch.go (fun _ q => XS.bipush X0.here hx rfl (hb hby d5_149) q) ?_
              show Rch p ev below _ s₁ (mkF m 151 #[.val (.ref a1), .val (.int p2), .val (.int p3), .val (.int (p3 - p2)), .val (.int (own_c bs p2 0)), .val (.int (4 : Int32)), .val (.int ((own_c bs p2 0) &&& (7 : Int32))), .val (.int (65536 : Int32)), .val (.int (own_c bs p2 1)), .unset] [(.int (6 : Int32)), (.int ((own_c bs p2 0) &&& (7 : Int32)))])
              refine Rch.go (fun _ q => XS.ishl X0.here hx rfl (hb hby d5_151) rfl q) ?_
              show Rch p ev below _ s₁ (mkF m 152 #[.val (.ref a1), .val (.int p2), .val (.int p3), .val (.int (p3 - p2)), .val (.int (own_c bs p2 0)), .val (.int (4 : Int32)), .val (.int ((own_c bs p2 0) &&& (7 : Int32))), .val (.int (65536 : Int32)), .val (.int (own_c bs p2 1)), .unset] [(.int (((own_c bs p2 0) &&& (7 : Int32)) <<< ((6 : Int32) &&& 31)))])
              refine Rch.go (fun _ q => XS.iload X0.here hx rfl (hb hby d5_152) rfl  q) ?_
              show Rch p ev below _ s₁ (mkF m 154 #[.val (.ref a1), .val (.int p2), .val (.int p3), .val (.int (p3 - p2)), .val (.int (own_c bs p2 0)), .val (.int (4 : Int32)), .val (.int ((own_c bs p2 0) &&& (7 : Int32))), .val (.int (65536 : Int32)), .val (.int (own_c bs p2 1)), .unset] [(.int (own_c bs p2 1)), (.int (((own_c bs p2 0) &&& (7 : Int32)) <<< ((6 : Int32) &&& 31)))])
              refine Rch.go (fun _ q => XS.bipush X0.here hx rfl (hb hby d5_154) q) ?_
              show Rch p ev below _ s₁ (mkF m 156 #[.val (.ref a1), .val (.int p2), .val (.int p3), .val (.int (p3 - p2)), .val (.int (own_c bs p2 0)), .val (.int (4 : Int32)), .val (.int ((own_c bs p2 0) &&& (7 : Int32))), .val (.int (65536 : Int32)), .val (.int (own_c bs p2 1)), .unset] [(.int (63 : Int32)), (.int (own_c bs p2 1)), (.int (((own_c bs p2 0) &&& (7 : Int32)) <<< ((6 : Int32) &&& 31)))])
              refine Rch.go (fun _ q => XS.iand X0.here hx rfl (hb hby d5_156) rfl q) ?_
              show Rch p ev below _ s₁ (mkF m 157 #[.val (.ref a1), .val (.int p2), .val (.int p3), .val (.int (p3 - p2)), .val (.int (own_c bs p2 0)), .val (.int (4 : Int32)), .val (.int ((own_c bs p2 0) &&& (7 : Int32))), .val (.int (65536 : Int32)), .val (.int (own_c bs p2 1)), .unset] [(.int ((own_c bs p2 1) &&& (63 : Int32))), (.int (((own_c bs p2 0) &&& (7 : Int32)) <<< ((6 : Int32) &&& 31)))])
              refine Rch.go (fun _ q => XS.ior X0.here hx rfl (hb hby d5_157) rfl q) ?_
              show Rch p ev below _ s₁ (mkF m 158 #[.val (.ref a1), .val (.int p2), .val (.int p3), .val (.int (p3 - p2)), .val (.int (own_c bs p2 0)), .val (.int (4 : Int32)), .val (.int ((own_c bs p2 0) &&& (7 : Int32))), .val (.int (65536 : Int32)), .val (.int (own_c bs p2 1)), .unset] [(.int ((((own_c bs p2 0) &&& (7 : Int32)) <<< ((6 : Int32) &&& 31)) ||| ((own_c bs p2 1) &&& (63 : Int32))))])
              refine Rch.go (fun _ q => XS.istore X0.here hx rfl (hb hby d5_158) rfl (l' := #[.val (.ref a1), .val (.int p2), .val (.int p3), .val (.int (p3 - p2)), .val (.int (own_c bs p2 0)), .val (.int (4 : Int32)), .val (.int ((((own_c bs p2 0) &&& (7 : Int32)) <<< ((6 : Int32) &&& 31)) ||| ((own_c bs p2 1) &&& (63 : Int32)))), .val (.int (65536 : Int32)), .val (.int (own_c bs p2 1)), .unset]) rfl q) ?_
              show Rch p ev below _ s₁ (mkF m 160 #[.val (.ref a1), .val (.int p2), .val (.int p3), .val (.int (p3 - p2)), .val (.int (own_c bs p2 0)), .val (.int (4 : Int32)), .val (.int ((((own_c bs p2 0) &&& (7 : Int32)) <<< ((6 : Int32) &&& 31)) ||| ((own_c bs p2 1) &&& (63 : Int32)))), .val (.int (65536 : Int32)), .val (.int (own_c bs p2 1)), .unset] [])
              show Rch p ev below _ s₁ (mkF m 160 #[.val (.ref a1), .val (.int p2), .val (.int p3), .val (.int (p3 - p2)), .val (.int (own_c bs p2 0)), .val (.int (4 : Int32)), .val (.int (own_cp (own_c bs p2 0 &&& (7 : Int32)) (own_c bs p2 1))), .val (.int (65536 : Int32)), .val (.int (own_c bs p2 1)), .unset] [])
              refine Rch.go (fun _ q => XS.iload X0.here hx rfl (hb hby d5_160) rfl  q) ?_
              show Rch p ev below _ s₁ (mkF m 162 #[.val (.ref a1), .val (.int p2), .val (.int p3), .val (.int (p3 - p2)), .val (.int (own_c bs p2 0)), .val (.int (4 : Int32)), .val (.int (own_cp (own_c bs p2 0 &&& (7 : Int32)) (own_c bs p2 1))), .val (.int (65536 : Int32)), .val (.int (own_c bs p2 1)), .unset] [(.int (4 : Int32))])
              refine Rch.go (fun _ q => XS.iconst X0.here hx rfl (hb hby d5_162) q) ?_
              show Rch p ev below _ s₁ (mkF m 163 #[.val (.ref a1), .val (.int p2), .val (.int p3), .val (.int (p3 - p2)), .val (.int (own_c bs p2 0)), .val (.int (4 : Int32)), .val (.int (own_cp (own_c bs p2 0 &&& (7 : Int32)) (own_c bs p2 1))), .val (.int (65536 : Int32)), .val (.int (own_c bs p2 1)), .unset] [(.int (3 : Int32)), (.int (4 : Int32))])
              refine Rch.go (fun _ q => XS.icmpNo X0.here hx rfl (hb hby d5_163) rfl (flt (by decide)).1 q) ?_
              show Rch p ev below _ s₁ (mkF m 166 #[.val (.ref a1), .val (.int p2), .val (.int p3), .val (.int (p3 - p2)), .val (.int (own_c bs p2 0)), .val (.int (4 : Int32)), .val (.int (own_cp (own_c bs p2 0 &&& (7 : Int32)) (own_c bs p2 1))), .val (.int (65536 : Int32)), .val (.int (own_c bs p2 1)), .unset] [])
              refine Rch.go (fun _ q => XS.aloadN X0.here hx rfl (hb hby d5_166) rfl rfl q) ?_
              show Rch p ev below _ s₁ (mkF m 167 #[.val (.ref a1), .val (.int p2), .val (.int p3), .val (.int (p3 - p2)), .val (.int (own_c bs p2 0)), .val (.int (4 : Int32)), .val (.int (own_cp (own_c bs p2 0 &&& (7 : Int32)) (own_c bs p2 1))), .val (.int (65536 : Int32)), .val (.int (own_c bs p2 1)), .unset] [(.ref a1)])
              refine Rch.go (fun _ q => XS.iloadN X0.here hx rfl (hb hby d5_167) rfl  q) ?_
              show Rch p ev below _ s₁ (mkF m 168 #[.val (.ref a1), .val (.int p2), .val (.int p3), .val (.int (p3 - p2)), .val (.int (own_c bs p2 0)), .val (.int (4 : Int32)), .val (.int (own_cp (own_c bs p2 0 &&& (7 : Int32)) (own_c bs p2 1))), .val (.int (65536 : Int32)), .val (.int (own_c bs p2 1)), .unset] [(.int p2), (.ref a1)])
              refine Rch.go (fun _ q => XS.iconst X0.here hx rfl (hb hby d5_168) q) ?_
              show Rch p ev below _ s₁ (mkF m 169 #[.val (.ref a1), .val (.int p2), .val (.int p3), .val (.int (p3 - p2)), .val (.int (own_c bs p2 0)), .val (.int (4 : Int32)), .val (.int (own_cp (own_c bs p2 0 &&& (7 : Int32)) (own_c bs p2 1))), .val (.int (65536 : Int32)), .val (.int (own_c bs p2 1)), .unset] [(.int (2 : Int32)), (.int p2), (.ref a1)])
              refine Rch.go (fun _ q => XS.iadd X0.here hx rfl (hb hby d5_169) rfl q) ?_
              show Rch p ev below _ s₁ (mkF m 170 #[.val (.ref a1), .val (.int p2), .val (.int p3), .val (.int (p3 - p2)), .val (.int (own_c bs p2 0)), .val (.int (4 : Int32)), .val (.int (own_cp (own_c bs p2 0 &&& (7 : Int32)) (own_c bs p2 1))), .val (.int (65536 : Int32)), .val (.int (own_c bs p2 1)), .unset] [(.int (p2 + (2 : Int32))), (.ref a1)])
              refine Rch.go (fun _ q => ldB X0 hx hZ e0 V1 (j := (p2 + (2 : Int32))) (v := (.int (bs.getD (p2.toNatClampNeg + 2) 0))) (own_jk p2 (2 : Int32) 2 rfl hi0 (by omega)).1 (by rw [(own_jk p2 (2 : Int32) 2 rfl hi0 (by omega)).2]; exact own_rd bs _) (g := (mkF m 170 #[.val (.ref a1), .val (.int p2), .val (.int p3), .val (.int (p3 - p2)), .val (.int (own_c bs p2 0)), .val (.int (4 : Int32)), .val (.int (own_cp (own_c bs p2 0 &&& (7 : Int32)) (own_c bs p2 1))), .val (.int (65536 : Int32)), .val (.int (own_c bs p2 1)), .unset] [(.int (p2 + (2 : Int32))), (.ref a1)])) rfl rfl (hb hby d5_170) _ q) ?_
              show Rch p ev below _ s₁ (mkF m 171 #[.val (.ref a1), .val (.int p2), .val (.int p3), .val (.int (p3 - p2)), .val (.int (own_c bs p2 0)), .val (.int (4 : Int32)), .val (.int (own_cp (own_c bs p2 0 &&& (7 : Int32)) (own_c bs p2 1))), .val (.int (65536 : Int32)), .val (.int (own_c bs p2 1)), .unset] [(.int (bs.getD (p2.toNatClampNeg + 2) 0))])
              refine Rch.go (fun _ q => XS.sipush X0.here hx rfl (hb hby d5_171) q) ?_
              show Rch p ev below _ s₁ (mkF m 174 #[.val (.ref a1), .val (.int p2), .val (.int p3), .val (.int (p3 - p2)), .val (.int (own_c bs p2 0)), .val (.int (4 : Int32)), .val (.int (own_cp (own_c bs p2 0 &&& (7 : Int32)) (own_c bs p2 1))), .val (.int (65536 : Int32)), .val (.int (own_c bs p2 1)), .unset] [(.int (255 : Int32)), (.int (bs.getD (p2.toNatClampNeg + 2) 0))])
              refine Rch.go (fun _ q => XS.iand X0.here hx rfl (hb hby d5_174) rfl q) ?_
              show Rch p ev below _ s₁ (mkF m 175 #[.val (.ref a1), .val (.int p2), .val (.int p3), .val (.int (p3 - p2)), .val (.int (own_c bs p2 0)), .val (.int (4 : Int32)), .val (.int (own_cp (own_c bs p2 0 &&& (7 : Int32)) (own_c bs p2 1))), .val (.int (65536 : Int32)), .val (.int (own_c bs p2 1)), .unset] [(.int ((bs.getD (p2.toNatClampNeg + 2) 0) &&& (255 : Int32)))])
              refine Rch.go (fun _ q => XS.istore X0.here hx rfl (hb hby d5_175) rfl (l' := #[.val (.ref a1), .val (.int p2), .val (.int p3), .val (.int (p3 - p2)), .val (.int (own_c bs p2 0)), .val (.int (4 : Int32)), .val (.int (own_cp (own_c bs p2 0 &&& (7 : Int32)) (own_c bs p2 1))), .val (.int (65536 : Int32)), .val (.int (own_c bs p2 1)), .val (.int ((bs.getD (p2.toNatClampNeg + 2) 0) &&& (255 : Int32)))]) rfl q) ?_
              show Rch p ev below _ s₁ (mkF m 177 #[.val (.ref a1), .val (.int p2), .val (.int p3), .val (.int (p3 - p2)), .val (.int (own_c bs p2 0)), .val (.int (4 : Int32)), .val (.int (own_cp (own_c bs p2 0 &&& (7 : Int32)) (own_c bs p2 1))), .val (.int (65536 : Int32)), .val (.int (own_c bs p2 1)), .val (.int ((bs.getD (p2.toNatClampNeg + 2) 0) &&& (255 : Int32)))] [])
              show Rch p ev below _ s₁ (mkF m 177 #[.val (.ref a1), .val (.int p2), .val (.int p3), .val (.int (p3 - p2)), .val (.int (own_c bs p2 0)), .val (.int (4 : Int32)), .val (.int (own_cp (own_c bs p2 0 &&& (7 : Int32)) (own_c bs p2 1))), .val (.int (65536 : Int32)), .val (.int (own_c bs p2 1)), .val (.int (own_c bs p2 2))] [])
              refine Rch.go (fun _ q => XS.iload X0.here hx rfl (hb hby d5_177) rfl  q) ?_
              show Rch p ev below _ s₁ (mkF m 179 #[.val (.ref a1), .val (.int p2), .val (.int p3), .val (.int (p3 - p2)), .val (.int (own_c bs p2 0)), .val (.int (4 : Int32)), .val (.int (own_cp (own_c bs p2 0 &&& (7 : Int32)) (own_c bs p2 1))), .val (.int (65536 : Int32)), .val (.int (own_c bs p2 1)), .val (.int (own_c bs p2 2))] [(.int (own_c bs p2 2))])
              refine Rch.go (fun _ q => XS.sipush X0.here hx rfl (hb hby d5_179) q) ?_
              show Rch p ev below _ s₁ (mkF m 182 #[.val (.ref a1), .val (.int p2), .val (.int p3), .val (.int (p3 - p2)), .val (.int (own_c bs p2 0)), .val (.int (4 : Int32)), .val (.int (own_cp (own_c bs p2 0 &&& (7 : Int32)) (own_c bs p2 1))), .val (.int (65536 : Int32)), .val (.int (own_c bs p2 1)), .val (.int (own_c bs p2 2))] [(.int (192 : Int32)), (.int (own_c bs p2 2))])
              refine Rch.go (fun _ q => XS.iand X0.here hx rfl (hb hby d5_182) rfl q) ?_
              show Rch p ev below _ s₁ (mkF m 183 #[.val (.ref a1), .val (.int p2), .val (.int p3), .val (.int (p3 - p2)), .val (.int (own_c bs p2 0)), .val (.int (4 : Int32)), .val (.int (own_cp (own_c bs p2 0 &&& (7 : Int32)) (own_c bs p2 1))), .val (.int (65536 : Int32)), .val (.int (own_c bs p2 1)), .val (.int (own_c bs p2 2))] [(.int ((own_c bs p2 2) &&& (192 : Int32)))])
              refine Rch.go (fun _ q => XS.sipush X0.here hx rfl (hb hby d5_183) q) ?_
              show Rch p ev below _ s₁ (mkF m 186 #[.val (.ref a1), .val (.int p2), .val (.int p3), .val (.int (p3 - p2)), .val (.int (own_c bs p2 0)), .val (.int (4 : Int32)), .val (.int (own_cp (own_c bs p2 0 &&& (7 : Int32)) (own_c bs p2 1))), .val (.int (65536 : Int32)), .val (.int (own_c bs p2 1)), .val (.int (own_c bs p2 2))] [(.int (128 : Int32)), (.int ((own_c bs p2 2) &&& (192 : Int32)))])
              by_cases hc186 : ((own_c bs p2 2) &&& (192 : Int32)) = (128 : Int32)
              · skip
                refine Rch.go (fun _ q => XS.icmpYes X0.here hx rfl (pc0 := 186) (pc' := 191) rfl (hb hby d5_186) rfl (teq hc186).1 (by decide) (by decide) q) ?_
                show Rch p ev below _ s₁ (mkF m 191 #[.val (.ref a1), .val (.int p2), .val (.int p3), .val (.int (p3 - p2)), .val (.int (own_c bs p2 0)), .val (.int (4 : Int32)), .val (.int (own_cp (own_c bs p2 0 &&& (7 : Int32)) (own_c bs p2 1))), .val (.int (65536 : Int32)), .val (.int (own_c bs p2 1)), .val (.int (own_c bs p2 2))] [])
                refine Rch.go (fun _ q => XS.iload X0.here hx rfl (hb hby d5_191) rfl  q) ?_
                show Rch p ev below _ s₁ (mkF m 193 #[.val (.ref a1), .val (.int p2), .val (.int p3), .val (.int (p3 - p2)), .val (.int (own_c bs p2 0)), .val (.int (4 : Int32)), .val (.int (own_cp (own_c bs p2 0 &&& (7 : Int32)) (own_c bs p2 1))), .val (.int (65536 : Int32)), .val (.int (own_c bs p2 1)), .val (.int (own_c bs p2 2))] [(.int (own_cp (own_c bs p2 0 &&& (7 : Int32)) (own_c bs p2 1)))])
                refine Rch.go (fun _ q => XS.bipush X0.here hx rfl (hb hby d5_193) q) ?_
                show Rch p ev below _ s₁ (mkF m 195 #[.val (.ref a1), .val (.int p2), .val (.int p3), .val (.int (p3 - p2)), .val (.int (own_c bs p2 0)), .val (.int (4 : Int32)), .val (.int (own_cp (own_c bs p2 0 &&& (7 : Int32)) (own_c bs p2 1))), .val (.int (65536 : Int32)), .val (.int (own_c bs p2 1)), .val (.int (own_c bs p2 2))] [(.int (6 : Int32)), (.int (own_cp (own_c bs p2 0 &&& (7 : Int32)) (own_c bs p2 1)))])
                refine Rch.go (fun _ q => XS.ishl X0.here hx rfl (hb hby d5_195) rfl q) ?_
                show Rch p ev below _ s₁ (mkF m 196 #[.val (.ref a1), .val (.int p2), .val (.int p3), .val (.int (p3 - p2)), .val (.int (own_c bs p2 0)), .val (.int (4 : Int32)), .val (.int (own_cp (own_c bs p2 0 &&& (7 : Int32)) (own_c bs p2 1))), .val (.int (65536 : Int32)), .val (.int (own_c bs p2 1)), .val (.int (own_c bs p2 2))] [(.int ((own_cp (own_c bs p2 0 &&& (7 : Int32)) (own_c bs p2 1)) <<< ((6 : Int32) &&& 31)))])
                refine Rch.go (fun _ q => XS.iload X0.here hx rfl (hb hby d5_196) rfl  q) ?_
                show Rch p ev below _ s₁ (mkF m 198 #[.val (.ref a1), .val (.int p2), .val (.int p3), .val (.int (p3 - p2)), .val (.int (own_c bs p2 0)), .val (.int (4 : Int32)), .val (.int (own_cp (own_c bs p2 0 &&& (7 : Int32)) (own_c bs p2 1))), .val (.int (65536 : Int32)), .val (.int (own_c bs p2 1)), .val (.int (own_c bs p2 2))] [(.int (own_c bs p2 2)), (.int ((own_cp (own_c bs p2 0 &&& (7 : Int32)) (own_c bs p2 1)) <<< ((6 : Int32) &&& 31)))])
                refine Rch.go (fun _ q => XS.bipush X0.here hx rfl (hb hby d5_198) q) ?_
                show Rch p ev below _ s₁ (mkF m 200 #[.val (.ref a1), .val (.int p2), .val (.int p3), .val (.int (p3 - p2)), .val (.int (own_c bs p2 0)), .val (.int (4 : Int32)), .val (.int (own_cp (own_c bs p2 0 &&& (7 : Int32)) (own_c bs p2 1))), .val (.int (65536 : Int32)), .val (.int (own_c bs p2 1)), .val (.int (own_c bs p2 2))] [(.int (63 : Int32)), (.int (own_c bs p2 2)), (.int ((own_cp (own_c bs p2 0 &&& (7 : Int32)) (own_c bs p2 1)) <<< ((6 : Int32) &&& 31)))])
                refine Rch.go (fun _ q => XS.iand X0.here hx rfl (hb hby d5_200) rfl q) ?_
                show Rch p ev below _ s₁ (mkF m 201 #[.val (.ref a1), .val (.int p2), .val (.int p3), .val (.int (p3 - p2)), .val (.int (own_c bs p2 0)), .val (.int (4 : Int32)), .val (.int (own_cp (own_c bs p2 0 &&& (7 : Int32)) (own_c bs p2 1))), .val (.int (65536 : Int32)), .val (.int (own_c bs p2 1)), .val (.int (own_c bs p2 2))] [(.int ((own_c bs p2 2) &&& (63 : Int32))), (.int ((own_cp (own_c bs p2 0 &&& (7 : Int32)) (own_c bs p2 1)) <<< ((6 : Int32) &&& 31)))])
                refine Rch.go (fun _ q => XS.ior X0.here hx rfl (hb hby d5_201) rfl q) ?_
                show Rch p ev below _ s₁ (mkF m 202 #[.val (.ref a1), .val (.int p2), .val (.int p3), .val (.int (p3 - p2)), .val (.int (own_c bs p2 0)), .val (.int (4 : Int32)), .val (.int (own_cp (own_c bs p2 0 &&& (7 : Int32)) (own_c bs p2 1))), .val (.int (65536 : Int32)), .val (.int (own_c bs p2 1)), .val (.int (own_c bs p2 2))] [(.int (((own_cp (own_c bs p2 0 &&& (7 : Int32)) (own_c bs p2 1)) <<< ((6 : Int32) &&& 31)) ||| ((own_c bs p2 2) &&& (63 : Int32))))])
                refine Rch.go (fun _ q => XS.istore X0.here hx rfl (hb hby d5_202) rfl (l' := #[.val (.ref a1), .val (.int p2), .val (.int p3), .val (.int (p3 - p2)), .val (.int (own_c bs p2 0)), .val (.int (4 : Int32)), .val (.int (((own_cp (own_c bs p2 0 &&& (7 : Int32)) (own_c bs p2 1)) <<< ((6 : Int32) &&& 31)) ||| ((own_c bs p2 2) &&& (63 : Int32)))), .val (.int (65536 : Int32)), .val (.int (own_c bs p2 1)), .val (.int (own_c bs p2 2))]) rfl q) ?_
                show Rch p ev below _ s₁ (mkF m 204 #[.val (.ref a1), .val (.int p2), .val (.int p3), .val (.int (p3 - p2)), .val (.int (own_c bs p2 0)), .val (.int (4 : Int32)), .val (.int (((own_cp (own_c bs p2 0 &&& (7 : Int32)) (own_c bs p2 1)) <<< ((6 : Int32) &&& 31)) ||| ((own_c bs p2 2) &&& (63 : Int32)))), .val (.int (65536 : Int32)), .val (.int (own_c bs p2 1)), .val (.int (own_c bs p2 2))] [])
                show Rch p ev below _ s₁ (mkF m 204 #[.val (.ref a1), .val (.int p2), .val (.int p3), .val (.int (p3 - p2)), .val (.int (own_c bs p2 0)), .val (.int (4 : Int32)), .val (.int (own_cp (own_cp (own_c bs p2 0 &&& (7 : Int32)) (own_c bs p2 1)) (own_c bs p2 2))), .val (.int (65536 : Int32)), .val (.int (own_c bs p2 1)), .val (.int (own_c bs p2 2))] [])
                refine Rch.go (fun _ q => XS.iload X0.here hx rfl (hb hby d5_204) rfl  q) ?_
                show Rch p ev below _ s₁ (mkF m 206 #[.val (.ref a1), .val (.int p2), .val (.int p3), .val (.int (p3 - p2)), .val (.int (own_c bs p2 0)), .val (.int (4 : Int32)), .val (.int (own_cp (own_cp (own_c bs p2 0 &&& (7 : Int32)) (own_c bs p2 1)) (own_c bs p2 2))), .val (.int (65536 : Int32)), .val (.int (own_c bs p2 1)), .val (.int (own_c bs p2 2))] [(.int (4 : Int32))])
                refine Rch.go (fun _ q => XS.iconst X0.here hx rfl (hb hby d5_206) q) ?_
                show Rch p ev below _ s₁ (mkF m 207 #[.val (.ref a1), .val (.int p2), .val (.int p3), .val (.int (p3 - p2)), .val (.int (own_c bs p2 0)), .val (.int (4 : Int32)), .val (.int (own_cp (own_cp (own_c bs p2 0 &&& (7 : Int32)) (own_c bs p2 1)) (own_c bs p2 2))), .val (.int (65536 : Int32)), .val (.int (own_c bs p2 1)), .val (.int (own_c bs p2 2))] [(.int (4 : Int32)), (.int (4 : Int32))])
                refine Rch.go (fun _ q => XS.icmpNo X0.here hx rfl (hb hby d5_207) rfl (teq (by decide)).2 q) ?_
                show Rch p ev below _ s₁ (mkF m 210 #[.val (.ref a1), .val (.int p2), .val (.int p3), .val (.int (p3 - p2)), .val (.int (own_c bs p2 0)), .val (.int (4 : Int32)), .val (.int (own_cp (own_cp (own_c bs p2 0 &&& (7 : Int32)) (own_c bs p2 1)) (own_c bs p2 2))), .val (.int (65536 : Int32)), .val (.int (own_c bs p2 1)), .val (.int (own_c bs p2 2))] [])
                refine Rch.go (fun _ q => XS.aloadN X0.here hx rfl (hb hby d5_210) rfl rfl q) ?_
                show Rch p ev below _ s₁ (mkF m 211 #[.val (.ref a1), .val (.int p2), .val (.int p3), .val (.int (p3 - p2)), .val (.int (own_c bs p2 0)), .val (.int (4 : Int32)), .val (.int (own_cp (own_cp (own_c bs p2 0 &&& (7 : Int32)) (own_c bs p2 1)) (own_c bs p2 2))), .val (.int (65536 : Int32)), .val (.int (own_c bs p2 1)), .val (.int (own_c bs p2 2))] [(.ref a1)])
                refine Rch.go (fun _ q => XS.iloadN X0.here hx rfl (hb hby d5_211) rfl  q) ?_
                show Rch p ev below _ s₁ (mkF m 212 #[.val (.ref a1), .val (.int p2), .val (.int p3), .val (.int (p3 - p2)), .val (.int (own_c bs p2 0)), .val (.int (4 : Int32)), .val (.int (own_cp (own_cp (own_c bs p2 0 &&& (7 : Int32)) (own_c bs p2 1)) (own_c bs p2 2))), .val (.int (65536 : Int32)), .val (.int (own_c bs p2 1)), .val (.int (own_c bs p2 2))] [(.int p2), (.ref a1)])
                refine Rch.go (fun _ q => XS.iconst X0.here hx rfl (hb hby d5_212) q) ?_
                show Rch p ev below _ s₁ (mkF m 213 #[.val (.ref a1), .val (.int p2), .val (.int p3), .val (.int (p3 - p2)), .val (.int (own_c bs p2 0)), .val (.int (4 : Int32)), .val (.int (own_cp (own_cp (own_c bs p2 0 &&& (7 : Int32)) (own_c bs p2 1)) (own_c bs p2 2))), .val (.int (65536 : Int32)), .val (.int (own_c bs p2 1)), .val (.int (own_c bs p2 2))] [(.int (3 : Int32)), (.int p2), (.ref a1)])
                refine Rch.go (fun _ q => XS.iadd X0.here hx rfl (hb hby d5_213) rfl q) ?_
                show Rch p ev below _ s₁ (mkF m 214 #[.val (.ref a1), .val (.int p2), .val (.int p3), .val (.int (p3 - p2)), .val (.int (own_c bs p2 0)), .val (.int (4 : Int32)), .val (.int (own_cp (own_cp (own_c bs p2 0 &&& (7 : Int32)) (own_c bs p2 1)) (own_c bs p2 2))), .val (.int (65536 : Int32)), .val (.int (own_c bs p2 1)), .val (.int (own_c bs p2 2))] [(.int (p2 + (3 : Int32))), (.ref a1)])
                refine Rch.go (fun _ q => ldB X0 hx hZ e0 V1 (j := (p2 + (3 : Int32))) (v := (.int (bs.getD (p2.toNatClampNeg + 3) 0))) (own_jk p2 (3 : Int32) 3 rfl hi0 (by omega)).1 (by rw [(own_jk p2 (3 : Int32) 3 rfl hi0 (by omega)).2]; exact own_rd bs _) (g := (mkF m 214 #[.val (.ref a1), .val (.int p2), .val (.int p3), .val (.int (p3 - p2)), .val (.int (own_c bs p2 0)), .val (.int (4 : Int32)), .val (.int (own_cp (own_cp (own_c bs p2 0 &&& (7 : Int32)) (own_c bs p2 1)) (own_c bs p2 2))), .val (.int (65536 : Int32)), .val (.int (own_c bs p2 1)), .val (.int (own_c bs p2 2))] [(.int (p2 + (3 : Int32))), (.ref a1)])) rfl rfl (hb hby d5_214) _ q) ?_
                show Rch p ev below _ s₁ (mkF m 215 #[.val (.ref a1), .val (.int p2), .val (.int p3), .val (.int (p3 - p2)), .val (.int (own_c bs p2 0)), .val (.int (4 : Int32)), .val (.int (own_cp (own_cp (own_c bs p2 0 &&& (7 : Int32)) (own_c bs p2 1)) (own_c bs p2 2))), .val (.int (65536 : Int32)), .val (.int (own_c bs p2 1)), .val (.int (own_c bs p2 2))] [(.int (bs.getD (p2.toNatClampNeg + 3) 0))])
                refine Rch.go (fun _ q => XS.sipush X0.here hx rfl (hb hby d5_215) q) ?_
                show Rch p ev below _ s₁ (mkF m 218 #[.val (.ref a1), .val (.int p2), .val (.int p3), .val (.int (p3 - p2)), .val (.int (own_c bs p2 0)), .val (.int (4 : Int32)), .val (.int (own_cp (own_cp (own_c bs p2 0 &&& (7 : Int32)) (own_c bs p2 1)) (own_c bs p2 2))), .val (.int (65536 : Int32)), .val (.int (own_c bs p2 1)), .val (.int (own_c bs p2 2))] [(.int (255 : Int32)), (.int (bs.getD (p2.toNatClampNeg + 3) 0))])
                refine Rch.go (fun _ q => XS.iand X0.here hx rfl (hb hby d5_218) rfl q) ?_
                show Rch p ev below _ s₁ (mkF m 219 #[.val (.ref a1), .val (.int p2), .val (.int p3), .val (.int (p3 - p2)), .val (.int (own_c bs p2 0)), .val (.int (4 : Int32)), .val (.int (own_cp (own_cp (own_c bs p2 0 &&& (7 : Int32)) (own_c bs p2 1)) (own_c bs p2 2))), .val (.int (65536 : Int32)), .val (.int (own_c bs p2 1)), .val (.int (own_c bs p2 2))] [(.int ((bs.getD (p2.toNatClampNeg + 3) 0) &&& (255 : Int32)))])
                refine Rch.go (fun _ q => XS.istore X0.here hx rfl (hb hby d5_219) rfl (l' := #[.val (.ref a1), .val (.int p2), .val (.int p3), .val (.int (p3 - p2)), .val (.int (own_c bs p2 0)), .val (.int (4 : Int32)), .val (.int (own_cp (own_cp (own_c bs p2 0 &&& (7 : Int32)) (own_c bs p2 1)) (own_c bs p2 2))), .val (.int (65536 : Int32)), .val (.int (own_c bs p2 1)), .val (.int ((bs.getD (p2.toNatClampNeg + 3) 0) &&& (255 : Int32)))]) rfl q) ?_
                show Rch p ev below _ s₁ (mkF m 221 #[.val (.ref a1), .val (.int p2), .val (.int p3), .val (.int (p3 - p2)), .val (.int (own_c bs p2 0)), .val (.int (4 : Int32)), .val (.int (own_cp (own_cp (own_c bs p2 0 &&& (7 : Int32)) (own_c bs p2 1)) (own_c bs p2 2))), .val (.int (65536 : Int32)), .val (.int (own_c bs p2 1)), .val (.int ((bs.getD (p2.toNatClampNeg + 3) 0) &&& (255 : Int32)))] [])
                show Rch p ev below _ s₁ (mkF m 221 #[.val (.ref a1), .val (.int p2), .val (.int p3), .val (.int (p3 - p2)), .val (.int (own_c bs p2 0)), .val (.int (4 : Int32)), .val (.int (own_cp (own_cp (own_c bs p2 0 &&& (7 : Int32)) (own_c bs p2 1)) (own_c bs p2 2))), .val (.int (65536 : Int32)), .val (.int (own_c bs p2 1)), .val (.int (own_c bs p2 3))] [])
                refine Rch.go (fun _ q => XS.iload X0.here hx rfl (hb hby d5_221) rfl  q) ?_
                show Rch p ev below _ s₁ (mkF m 223 #[.val (.ref a1), .val (.int p2), .val (.int p3), .val (.int (p3 - p2)), .val (.int (own_c bs p2 0)), .val (.int (4 : Int32)), .val (.int (own_cp (own_cp (own_c bs p2 0 &&& (7 : Int32)) (own_c bs p2 1)) (own_c bs p2 2))), .val (.int (65536 : Int32)), .val (.int (own_c bs p2 1)), .val (.int (own_c bs p2 3))] [(.int (own_c bs p2 3))])
                refine Rch.go (fun _ q => XS.sipush X0.here hx rfl (hb hby d5_223) q) ?_
                show Rch p ev below _ s₁ (mkF m 226 #[.val (.ref a1), .val (.int p2), .val (.int p3), .val (.int (p3 - p2)), .val (.int (own_c bs p2 0)), .val (.int (4 : Int32)), .val (.int (own_cp (own_cp (own_c bs p2 0 &&& (7 : Int32)) (own_c bs p2 1)) (own_c bs p2 2))), .val (.int (65536 : Int32)), .val (.int (own_c bs p2 1)), .val (.int (own_c bs p2 3))] [(.int (192 : Int32)), (.int (own_c bs p2 3))])
                refine Rch.go (fun _ q => XS.iand X0.here hx rfl (hb hby d5_226) rfl q) ?_
                show Rch p ev below _ s₁ (mkF m 227 #[.val (.ref a1), .val (.int p2), .val (.int p3), .val (.int (p3 - p2)), .val (.int (own_c bs p2 0)), .val (.int (4 : Int32)), .val (.int (own_cp (own_cp (own_c bs p2 0 &&& (7 : Int32)) (own_c bs p2 1)) (own_c bs p2 2))), .val (.int (65536 : Int32)), .val (.int (own_c bs p2 1)), .val (.int (own_c bs p2 3))] [(.int ((own_c bs p2 3) &&& (192 : Int32)))])
                refine Rch.go (fun _ q => XS.sipush X0.here hx rfl (hb hby d5_227) q) ?_
                show Rch p ev below _ s₁ (mkF m 230 #[.val (.ref a1), .val (.int p2), .val (.int p3), .val (.int (p3 - p2)), .val (.int (own_c bs p2 0)), .val (.int (4 : Int32)), .val (.int (own_cp (own_cp (own_c bs p2 0 &&& (7 : Int32)) (own_c bs p2 1)) (own_c bs p2 2))), .val (.int (65536 : Int32)), .val (.int (own_c bs p2 1)), .val (.int (own_c bs p2 3))] [(.int (128 : Int32)), (.int ((own_c bs p2 3) &&& (192 : Int32)))])
                by_cases hc230 : ((own_c bs p2 3) &&& (192 : Int32)) = (128 : Int32)
                · skip
                  refine Rch.go (fun _ q => XS.icmpYes X0.here hx rfl (pc0 := 230) (pc' := 235) rfl (hb hby d5_230) rfl (teq hc230).1 (by decide) (by decide) q) ?_
                  show Rch p ev below _ s₁ (mkF m 235 #[.val (.ref a1), .val (.int p2), .val (.int p3), .val (.int (p3 - p2)), .val (.int (own_c bs p2 0)), .val (.int (4 : Int32)), .val (.int (own_cp (own_cp (own_c bs p2 0 &&& (7 : Int32)) (own_c bs p2 1)) (own_c bs p2 2))), .val (.int (65536 : Int32)), .val (.int (own_c bs p2 1)), .val (.int (own_c bs p2 3))] [])
                  refine Rch.go (fun _ q => XS.iload X0.here hx rfl (hb hby d5_235) rfl  q) ?_
                  show Rch p ev below _ s₁ (mkF m 237 #[.val (.ref a1), .val (.int p2), .val (.int p3), .val (.int (p3 - p2)), .val (.int (own_c bs p2 0)), .val (.int (4 : Int32)), .val (.int (own_cp (own_cp (own_c bs p2 0 &&& (7 : Int32)) (own_c bs p2 1)) (own_c bs p2 2))), .val (.int (65536 : Int32)), .val (.int (own_c bs p2 1)), .val (.int (own_c bs p2 3))] [(.int (own_cp (own_cp (own_c bs p2 0 &&& (7 : Int32)) (own_c bs p2 1)) (own_c bs p2 2)))])
                  refine Rch.go (fun _ q => XS.bipush X0.here hx rfl (hb hby d5_237) q) ?_
                  show Rch p ev below _ s₁ (mkF m 239 #[.val (.ref a1), .val (.int p2), .val (.int p3), .val (.int (p3 - p2)), .val (.int (own_c bs p2 0)), .val (.int (4 : Int32)), .val (.int (own_cp (own_cp (own_c bs p2 0 &&& (7 : Int32)) (own_c bs p2 1)) (own_c bs p2 2))), .val (.int (65536 : Int32)), .val (.int (own_c bs p2 1)), .val (.int (own_c bs p2 3))] [(.int (6 : Int32)), (.int (own_cp (own_cp (own_c bs p2 0 &&& (7 : Int32)) (own_c bs p2 1)) (own_c bs p2 2)))])
                  refine Rch.go (fun _ q => XS.ishl X0.here hx rfl (hb hby d5_239) rfl q) ?_
                  show Rch p ev below _ s₁ (mkF m 240 #[.val (.ref a1), .val (.int p2), .val (.int p3), .val (.int (p3 - p2)), .val (.int (own_c bs p2 0)), .val (.int (4 : Int32)), .val (.int (own_cp (own_cp (own_c bs p2 0 &&& (7 : Int32)) (own_c bs p2 1)) (own_c bs p2 2))), .val (.int (65536 : Int32)), .val (.int (own_c bs p2 1)), .val (.int (own_c bs p2 3))] [(.int ((own_cp (own_cp (own_c bs p2 0 &&& (7 : Int32)) (own_c bs p2 1)) (own_c bs p2 2)) <<< ((6 : Int32) &&& 31)))])
                  refine Rch.go (fun _ q => XS.iload X0.here hx rfl (hb hby d5_240) rfl  q) ?_
                  show Rch p ev below _ s₁ (mkF m 242 #[.val (.ref a1), .val (.int p2), .val (.int p3), .val (.int (p3 - p2)), .val (.int (own_c bs p2 0)), .val (.int (4 : Int32)), .val (.int (own_cp (own_cp (own_c bs p2 0 &&& (7 : Int32)) (own_c bs p2 1)) (own_c bs p2 2))), .val (.int (65536 : Int32)), .val (.int (own_c bs p2 1)), .val (.int (own_c bs p2 3))] [(.int (own_c bs p2 3)), (.int ((own_cp (own_cp (own_c bs p2 0 &&& (7 : Int32)) (own_c bs p2 1)) (own_c bs p2 2)) <<< ((6 : Int32) &&& 31)))])
                  refine Rch.go (fun _ q => XS.bipush X0.here hx rfl (hb hby d5_242) q) ?_
                  show Rch p ev below _ s₁ (mkF m 244 #[.val (.ref a1), .val (.int p2), .val (.int p3), .val (.int (p3 - p2)), .val (.int (own_c bs p2 0)), .val (.int (4 : Int32)), .val (.int (own_cp (own_cp (own_c bs p2 0 &&& (7 : Int32)) (own_c bs p2 1)) (own_c bs p2 2))), .val (.int (65536 : Int32)), .val (.int (own_c bs p2 1)), .val (.int (own_c bs p2 3))] [(.int (63 : Int32)), (.int (own_c bs p2 3)), (.int ((own_cp (own_cp (own_c bs p2 0 &&& (7 : Int32)) (own_c bs p2 1)) (own_c bs p2 2)) <<< ((6 : Int32) &&& 31)))])
                  refine Rch.go (fun _ q => XS.iand X0.here hx rfl (hb hby d5_244) rfl q) ?_
                  show Rch p ev below _ s₁ (mkF m 245 #[.val (.ref a1), .val (.int p2), .val (.int p3), .val (.int (p3 - p2)), .val (.int (own_c bs p2 0)), .val (.int (4 : Int32)), .val (.int (own_cp (own_cp (own_c bs p2 0 &&& (7 : Int32)) (own_c bs p2 1)) (own_c bs p2 2))), .val (.int (65536 : Int32)), .val (.int (own_c bs p2 1)), .val (.int (own_c bs p2 3))] [(.int ((own_c bs p2 3) &&& (63 : Int32))), (.int ((own_cp (own_cp (own_c bs p2 0 &&& (7 : Int32)) (own_c bs p2 1)) (own_c bs p2 2)) <<< ((6 : Int32) &&& 31)))])
                  refine Rch.go (fun _ q => XS.ior X0.here hx rfl (hb hby d5_245) rfl q) ?_
                  show Rch p ev below _ s₁ (mkF m 246 #[.val (.ref a1), .val (.int p2), .val (.int p3), .val (.int (p3 - p2)), .val (.int (own_c bs p2 0)), .val (.int (4 : Int32)), .val (.int (own_cp (own_cp (own_c bs p2 0 &&& (7 : Int32)) (own_c bs p2 1)) (own_c bs p2 2))), .val (.int (65536 : Int32)), .val (.int (own_c bs p2 1)), .val (.int (own_c bs p2 3))] [(.int (((own_cp (own_cp (own_c bs p2 0 &&& (7 : Int32)) (own_c bs p2 1)) (own_c bs p2 2)) <<< ((6 : Int32) &&& 31)) ||| ((own_c bs p2 3) &&& (63 : Int32))))])
                  refine Rch.go (fun _ q => XS.istore X0.here hx rfl (hb hby d5_246) rfl (l' := #[.val (.ref a1), .val (.int p2), .val (.int p3), .val (.int (p3 - p2)), .val (.int (own_c bs p2 0)), .val (.int (4 : Int32)), .val (.int (((own_cp (own_cp (own_c bs p2 0 &&& (7 : Int32)) (own_c bs p2 1)) (own_c bs p2 2)) <<< ((6 : Int32) &&& 31)) ||| ((own_c bs p2 3) &&& (63 : Int32)))), .val (.int (65536 : Int32)), .val (.int (own_c bs p2 1)), .val (.int (own_c bs p2 3))]) rfl q) ?_
                  show Rch p ev below _ s₁ (mkF m 248 #[.val (.ref a1), .val (.int p2), .val (.int p3), .val (.int (p3 - p2)), .val (.int (own_c bs p2 0)), .val (.int (4 : Int32)), .val (.int (((own_cp (own_cp (own_c bs p2 0 &&& (7 : Int32)) (own_c bs p2 1)) (own_c bs p2 2)) <<< ((6 : Int32) &&& 31)) ||| ((own_c bs p2 3) &&& (63 : Int32)))), .val (.int (65536 : Int32)), .val (.int (own_c bs p2 1)), .val (.int (own_c bs p2 3))] [])
                  show Rch p ev below _ s₁ (mkF m 248 #[.val (.ref a1), .val (.int p2), .val (.int p3), .val (.int (p3 - p2)), .val (.int (own_c bs p2 0)), .val (.int (4 : Int32)), .val (.int (own_cp (own_cp (own_cp (own_c bs p2 0 &&& (7 : Int32)) (own_c bs p2 1)) (own_c bs p2 2)) (own_c bs p2 3))), .val (.int (65536 : Int32)), .val (.int (own_c bs p2 1)), .val (.int (own_c bs p2 3))] [])
                  refine Rch.go (fun _ q => XS.iload X0.here hx rfl (hb hby d5_248) rfl  q) ?_
                  show Rch p ev below _ s₁ (mkF m 250 #[.val (.ref a1), .val (.int p2), .val (.int p3), .val (.int (p3 - p2)), .val (.int (own_c bs p2 0)), .val (.int (4 : Int32)), .val (.int (own_cp (own_cp (own_cp (own_c bs p2 0 &&& (7 : Int32)) (own_c bs p2 1)) (own_c bs p2 2)) (own_c bs p2 3))), .val (.int (65536 : Int32)), .val (.int (own_c bs p2 1)), .val (.int (own_c bs p2 3))] [(.int (own_cp (own_cp (own_cp (own_c bs p2 0 &&& (7 : Int32)) (own_c bs p2 1)) (own_c bs p2 2)) (own_c bs p2 3)))])
                  refine Rch.go (fun _ q => XS.iload X0.here hx rfl (hb hby d5_250) rfl  q) ?_
                  show Rch p ev below _ s₁ (mkF m 252 #[.val (.ref a1), .val (.int p2), .val (.int p3), .val (.int (p3 - p2)), .val (.int (own_c bs p2 0)), .val (.int (4 : Int32)), .val (.int (own_cp (own_cp (own_cp (own_c bs p2 0 &&& (7 : Int32)) (own_c bs p2 1)) (own_c bs p2 2)) (own_c bs p2 3))), .val (.int (65536 : Int32)), .val (.int (own_c bs p2 1)), .val (.int (own_c bs p2 3))] [(.int (65536 : Int32)), (.int (own_cp (own_cp (own_cp (own_c bs p2 0 &&& (7 : Int32)) (own_c bs p2 1)) (own_c bs p2 2)) (own_c bs p2 3)))])
                  by_cases hc252 : (own_cp (own_cp (own_cp (own_c bs p2 0 &&& (7 : Int32)) (own_c bs p2 1)) (own_c bs p2 2)) (own_c bs p2 3)) < (65536 : Int32)
                  · skip
                    refine Rch.go (fun _ q => XS.icmpNo X0.here hx rfl (hb hby d5_252) rfl (tlt hc252).2.1 q) ?_
                    show Rch p ev below _ s₁ (mkF m 255 #[.val (.ref a1), .val (.int p2), .val (.int p3), .val (.int (p3 - p2)), .val (.int (own_c bs p2 0)), .val (.int (4 : Int32)), .val (.int (own_cp (own_cp (own_cp (own_c bs p2 0 &&& (7 : Int32)) (own_c bs p2 1)) (own_c bs p2 2)) (own_c bs p2 3))), .val (.int (65536 : Int32)), .val (.int (own_c bs p2 1)), .val (.int (own_c bs p2 3))] [])
                    refine Rch.go (fun _ q => XS.iconst X0.here hx rfl (hb hby d5_255) q) ?_
                    show Rch p ev below _ s₁ (mkF m 256 #[.val (.ref a1), .val (.int p2), .val (.int p3), .val (.int (p3 - p2)), .val (.int (own_c bs p2 0)), .val (.int (4 : Int32)), .val (.int (own_cp (own_cp (own_cp (own_c bs p2 0 &&& (7 : Int32)) (own_c bs p2 1)) (own_c bs p2 2)) (own_c bs p2 3))), .val (.int (65536 : Int32)), .val (.int (own_c bs p2 1)), .val (.int (own_c bs p2 3))] [(.int (0 : Int32))])
                    refine Rch.retI X0 hx hlk Bd.returns (hb hby d5_256) (by decide) (by decide) ?_
                    unfold Qrm5
                    exact ⟨by simp only [own_sq, own_sq2, own_sq3, own_sq4, own_chk, hc18, hc32, hc62, hc92, hc117, hc142, hc186, hc230, hc252, if_true, if_false], N0, e0⟩
                  · skip
                    refine Rch.go (fun _ q => XS.icmpYes X0.here hx rfl (pc0 := 252) (pc' := 257) rfl (hb hby d5_252) rfl (flt hc252).2.1 (by decide) (by decide) q) ?_
                    show Rch p ev below _ s₁ (mkF m 257 #[.val (.ref a1), .val (.int p2), .val (.int p3), .val (.int (p3 - p2)), .val (.int (own_c bs p2 0)), .val (.int (4 : Int32)), .val (.int (own_cp (own_cp (own_cp (own_c bs p2 0 &&& (7 : Int32)) (own_c bs p2 1)) (own_c bs p2 2)) (own_c bs p2 3))), .val (.int (65536 : Int32)), .val (.int (own_c bs p2 1)), .val (.int (own_c bs p2 3))] [])
                    refine Rch.go (fun _ q => XS.iload X0.here hx rfl (hb hby d5_257) rfl  q) ?_
                    show Rch p ev below _ s₁ (mkF m 259 #[.val (.ref a1), .val (.int p2), .val (.int p3), .val (.int (p3 - p2)), .val (.int (own_c bs p2 0)), .val (.int (4 : Int32)), .val (.int (own_cp (own_cp (own_cp (own_c bs p2 0 &&& (7 : Int32)) (own_c bs p2 1)) (own_c bs p2 2)) (own_c bs p2 3))), .val (.int (65536 : Int32)), .val (.int (own_c bs p2 1)), .val (.int (own_c bs p2 3))] [(.int (own_cp (own_cp (own_cp (own_c bs p2 0 &&& (7 : Int32)) (own_c bs p2 1)) (own_c bs p2 2)) (own_c bs p2 3)))])
                    refine Rch.go (fun _ q => X0.ldcI hx (own := "com/example/slicewright/slicewright/runtime/Utf8WellFormedUpToPinLaw") hown (mvT hZ (hw _ (List.mem_of_getElem? (i := 22) rfl))) rfl (hb hby d5_259) q) ?_
                    show Rch p ev below _ s₁ (mkF m 261 #[.val (.ref a1), .val (.int p2), .val (.int p3), .val (.int (p3 - p2)), .val (.int (own_c bs p2 0)), .val (.int (4 : Int32)), .val (.int (own_cp (own_cp (own_cp (own_c bs p2 0 &&& (7 : Int32)) (own_c bs p2 1)) (own_c bs p2 2)) (own_c bs p2 3))), .val (.int (65536 : Int32)), .val (.int (own_c bs p2 1)), .val (.int (own_c bs p2 3))] [(.int (55296 : Int32)), (.int (own_cp (own_cp (own_cp (own_c bs p2 0 &&& (7 : Int32)) (own_c bs p2 1)) (own_c bs p2 2)) (own_c bs p2 3)))])
                    by_cases hc261 : (own_cp (own_cp (own_cp (own_c bs p2 0 &&& (7 : Int32)) (own_c bs p2 1)) (own_c bs p2 2)) (own_c bs p2 3)) < (55296 : Int32)
                    · skip
                      refine Rch.go (fun _ q => XS.icmpYes X0.here hx rfl (pc0 := 261) (pc' := 273) rfl (hb hby d5_261) rfl (tlt hc261).1 (by decide) (by decide) q) ?_
                      show Rch p ev below _ s₁ (mkF m 273 #[.val (.ref a1), .val (.int p2), .val (.int p3), .val (.int (p3 - p2)), .val (.int (own_c bs p2 0)), .val (.int (4 : Int32)), .val (.int (own_cp (own_cp (own_cp (own_c bs p2 0 &&& (7 : Int32)) (own_c bs p2 1)) (own_c bs p2 2)) (own_c bs p2 3))), .val (.int (65536 : Int32)), .val (.int (own_c bs p2 1)), .val (.int (own_c bs p2 3))] [])
                      refine Rch.go (fun _ q => XS.iload X0.here hx rfl (hb hby d5_273) rfl  q) ?_
                      show Rch p ev below _ s₁ (mkF m 275 #[.val (.ref a1), .val (.int p2), .val (.int p3), .val (.int (p3 - p2)), .val (.int (own_c bs p2 0)), .val (.int (4 : Int32)), .val (.int (own_cp (own_cp (own_cp (own_c bs p2 0 &&& (7 : Int32)) (own_c bs p2 1)) (own_c bs p2 2)) (own_c bs p2 3))), .val (.int (65536 : Int32)), .val (.int (own_c bs p2 1)), .val (.int (own_c bs p2 3))] [(.int (own_cp (own_cp (own_cp (own_c bs p2 0 &&& (7 : Int32)) (own_c bs p2 1)) (own_c bs p2 2)) (own_c bs p2 3)))])
                      refine Rch.go (fun _ q => X0.ldcI hx (own := "com/example/slicewright/slicewright/runtime/Utf8WellFormedUpToPinLaw") hown (mvT hZ (hw _ (List.mem_of_getElem? (i := 23) rfl))) rfl (hb hby d5_275) q) ?_
                      show Rch p ev below _ s₁ (mkF m 277 #[.val (.ref a1), .val (.int p2), .val (.int p3), .val (.int (p3 - p2)), .val (.int (own_c bs p2 0)), .val (.int (4 : Int32)), .val (.int (own_cp (own_cp (own_cp (own_c bs p2 0 &&& (7 : Int32)) (own_c bs p2 1)) (own_c bs p2 2)) (own_c bs p2 3))), .val (.int (65536 : Int32)), .val (.int (own_c bs p2 1)), .val (.int (own_c bs p2 3))] [(.int (1114111 : Int32)), (.int (own_cp (own_cp (own_cp (own_c bs p2 0 &&& (7 : Int32)) (own_c bs p2 1)) (own_c bs p2 2)) (own_c bs p2 3)))])
                      by_cases hc277 : (1114111 : Int32) < (own_cp (own_cp (own_cp (own_c bs p2 0 &&& (7 : Int32)) (own_c bs p2 1)) (own_c bs p2 2)) (own_c bs p2 3))
                      · skip
                        refine Rch.go (fun _ q => XS.icmpNo X0.here hx rfl (hb hby d5_277) rfl (tlt hc277).2.2.2 q) ?_
                        show Rch p ev below _ s₁ (mkF m 280 #[.val (.ref a1), .val (.int p2), .val (.int p3), .val (.int (p3 - p2)), .val (.int (own_c bs p2 0)), .val (.int (4 : Int32)), .val (.int (own_cp (own_cp (own_cp (own_c bs p2 0 &&& (7 : Int32)) (own_c bs p2 1)) (own_c bs p2 2)) (own_c bs p2 3))), .val (.int (65536 : Int32)), .val (.int (own_c bs p2 1)), .val (.int (own_c bs p2 3))] [])
                        refine Rch.go (fun _ q => XS.iconst X0.here hx rfl (hb hby d5_280) q) ?_
                        show Rch p ev below _ s₁ (mkF m 281 #[.val (.ref a1), .val (.int p2), .val (.int p3), .val (.int (p3 - p2)), .val (.int (own_c bs p2 0)), .val (.int (4 : Int32)), .val (.int (own_cp (own_cp (own_cp (own_c bs p2 0 &&& (7 : Int32)) (own_c bs p2 1)) (own_c bs p2 2)) (own_c bs p2 3))), .val (.int (65536 : Int32)), .val (.int (own_c bs p2 1)), .val (.int (own_c bs p2 3))] [(.int (0 : Int32))])
                        refine Rch.retI X0 hx hlk Bd.returns (hb hby d5_281) (by decide) (by decide) ?_
                        unfold Qrm5
                        exact ⟨by simp only [own_sq, own_sq2, own_sq3, own_sq4, own_chk, hc18, hc32, hc62, hc92, hc117, hc142, hc186, hc230, hc252, hc261, hc277, if_true, if_false], N0, e0⟩
                      · skip
                        refine Rch.go (fun _ q => XS.icmpYes X0.here hx rfl (pc0 := 277) (pc' := 282) rfl (hb hby d5_277) rfl (flt hc277).2.2.2 (by decide) (by decide) q) ?_
                        show Rch p ev below _ s₁ (mkF m 282 #[.val (.ref a1), .val (.int p2), .val (.int p3), .val (.int (p3 - p2)), .val (.int (own_c bs p2 0)), .val (.int (4 : Int32)), .val (.int (own_cp (own_cp (own_cp (own_c bs p2 0 &&& (7 : Int32)) (own_c bs p2 1)) (own_c bs p2 2)) (own_c bs p2 3))), .val (.int (65536 : Int32)), .val (.int (own_c bs p2 1)), .val (.int (own_c bs p2 3))] [])
                        refine Rch.go (fun _ q => XS.iload X0.here hx rfl (hb hby d5_282) rfl  q) ?_
                        show Rch p ev below _ s₁ (mkF m 284 #[.val (.ref a1), .val (.int p2), .val (.int p3), .val (.int (p3 - p2)), .val (.int (own_c bs p2 0)), .val (.int (4 : Int32)), .val (.int (own_cp (own_cp (own_cp (own_c bs p2 0 &&& (7 : Int32)) (own_c bs p2 1)) (own_c bs p2 2)) (own_c bs p2 3))), .val (.int (65536 : Int32)), .val (.int (own_c bs p2 1)), .val (.int (own_c bs p2 3))] [(.int (4 : Int32))])
                        refine Rch.retI X0 hx hlk Bd.returns (hb hby d5_284) (by decide) (by decide) ?_
                        unfold Qrm5
                        exact ⟨by simp only [own_sq, own_sq2, own_sq3, own_sq4, own_chk, hc18, hc32, hc62, hc92, hc117, hc142, hc186, hc230, hc252, hc261, hc277, if_true, if_false], N0, e0⟩
                    · skip
                      refine Rch.go (fun _ q => XS.icmpNo X0.here hx rfl (hb hby d5_261) rfl (flt hc261).1 q) ?_
                      show Rch p ev below _ s₁ (mkF m 264 #[.val (.ref a1), .val (.int p2), .val (.int p3), .val (.int (p3 - p2)), .val (.int (own_c bs p2 0)), .val (.int (4 : Int32)), .val (.int (own_cp (own_cp (own_cp (own_c bs p2 0 &&& (7 : Int32)) (own_c bs p2 1)) (own_c bs p2 2)) (own_c bs p2 3))), .val (.int (65536 : Int32)), .val (.int (own_c bs p2 1)), .val (.int (own_c bs p2 3))] [])
                      refine Rch.go (fun _ q => XS.iload X0.here hx rfl (hb hby d5_264) rfl  q) ?_
                      show Rch p ev below _ s₁ (mkF m 266 #[.val (.ref a1), .val (.int p2), .val (.int p3), .val (.int (p3 - p2)), .val (.int (own_c bs p2 0)), .val (.int (4 : Int32)), .val (.int (own_cp (own_cp (own_cp (own_c bs p2 0 &&& (7 : Int32)) (own_c bs p2 1)) (own_c bs p2 2)) (own_c bs p2 3))), .val (.int (65536 : Int32)), .val (.int (own_c bs p2 1)), .val (.int (own_c bs p2 3))] [(.int (own_cp (own_cp (own_cp (own_c bs p2 0 &&& (7 : Int32)) (own_c bs p2 1)) (own_c bs p2 2)) (own_c bs p2 3)))])
                      refine Rch.go (fun _ q => X0.ldcI hx (own := "com/example/slicewright/slicewright/runtime/Utf8WellFormedUpToPinLaw") hown (mvT hZ (hw _ (List.mem_of_getElem? (i := 25) rfl))) rfl (hb hby d5_266) q) ?_
                      show Rch p ev below _ s₁ (mkF m 268 #[.val (.ref a1), .val (.int p2), .val (.int p3), .val (.int (p3 - p2)), .val (.int (own_c bs p2 0)), .val (.int (4 : Int32)), .val (.int (own_cp (own_cp (own_cp (own_c bs p2 0 &&& (7 : Int32)) (own_c bs p2 1)) (own_c bs p2 2)) (own_c bs p2 3))), .val (.int (65536 : Int32)), .val (.int (own_c bs p2 1)), .val (.int (own_c bs p2 3))] [(.int (57343 : Int32)), (.int (own_cp (own_cp (own_cp (own_c bs p2 0 &&& (7 : Int32)) (own_c bs p2 1)) (own_c bs p2 2)) (own_c bs p2 3)))])
                      by_cases hc268 : (57343 : Int32) < (own_cp (own_cp (own_cp (own_c bs p2 0 &&& (7 : Int32)) (own_c bs p2 1)) (own_c bs p2 2)) (own_c bs p2 3))
                      · skip
                        refine Rch.go (fun _ q => XS.icmpYes X0.here hx rfl (pc0 := 268) (pc' := 273) rfl (hb hby d5_268) rfl (tlt hc268).2.2.1 (by decide) (by decide) q) ?_
                        show Rch p ev below _ s₁ (mkF m 273 #[.val (.ref a1), .val (.int p2), .val (.int p3), .val (.int (p3 - p2)), .val (.int (own_c bs p2 0)), .val (.int (4 : Int32)), .val (.int (own_cp (own_cp (own_cp (own_c bs p2 0 &&& (7 : Int32)) (own_c bs p2 1)) (own_c bs p2 2)) (own_c bs p2 3))), .val (.int (65536 : Int32)), .val (.int (own_c bs p2 1)), .val (.int (own_c bs p2 3))] [])
                        refine Rch.go (fun _ q => XS.iload X0.here hx rfl (hb hby d5_273) rfl  q) ?_
                        show Rch p ev below _ s₁ (mkF m 275 #[.val (.ref a1), .val (.int p2), .val (.int p3), .val (.int (p3 - p2)), .val (.int (own_c bs p2 0)), .val (.int (4 : Int32)), .val (.int (own_cp (own_cp (own_cp (own_c bs p2 0 &&& (7 : Int32)) (own_c bs p2 1)) (own_c bs p2 2)) (own_c bs p2 3))), .val (.int (65536 : Int32)), .val (.int (own_c bs p2 1)), .val (.int (own_c bs p2 3))] [(.int (own_cp (own_cp (own_cp (own_c bs p2 0 &&& (7 : Int32)) (own_c bs p2 1)) (own_c bs p2 2)) (own_c bs p2 3)))])
                        refine Rch.go (fun _ q => X0.ldcI hx (own := "com/example/slicewright/slicewright/runtime/Utf8WellFormedUpToPinLaw") hown (mvT hZ (hw _ (List.mem_of_getElem? (i := 23) rfl))) rfl (hb hby d5_275) q) ?_
                        show Rch p ev below _ s₁ (mkF m 277 #[.val (.ref a1), .val (.int p2), .val (.int p3), .val (.int (p3 - p2)), .val (.int (own_c bs p2 0)), .val (.int (4 : Int32)), .val (.int (own_cp (own_cp (own_cp (own_c bs p2 0 &&& (7 : Int32)) (own_c bs p2 1)) (own_c bs p2 2)) (own_c bs p2 3))), .val (.int (65536 : Int32)), .val (.int (own_c bs p2 1)), .val (.int (own_c bs p2 3))] [(.int (1114111 : Int32)), (.int (own_cp (own_cp (own_cp (own_c bs p2 0 &&& (7 : Int32)) (own_c bs p2 1)) (own_c bs p2 2)) (own_c bs p2 3)))])
                        by_cases hc277 : (1114111 : Int32) < (own_cp (own_cp (own_cp (own_c bs p2 0 &&& (7 : Int32)) (own_c bs p2 1)) (own_c bs p2 2)) (own_c bs p2 3))
                        · skip
                          refine Rch.go (fun _ q => XS.icmpNo X0.here hx rfl (hb hby d5_277) rfl (tlt hc277).2.2.2 q) ?_
                          show Rch p ev below _ s₁ (mkF m 280 #[.val (.ref a1), .val (.int p2), .val (.int p3), .val (.int (p3 - p2)), .val (.int (own_c bs p2 0)), .val (.int (4 : Int32)), .val (.int (own_cp (own_cp (own_cp (own_c bs p2 0 &&& (7 : Int32)) (own_c bs p2 1)) (own_c bs p2 2)) (own_c bs p2 3))), .val (.int (65536 : Int32)), .val (.int (own_c bs p2 1)), .val (.int (own_c bs p2 3))] [])
                          refine Rch.go (fun _ q => XS.iconst X0.here hx rfl (hb hby d5_280) q) ?_
                          show Rch p ev below _ s₁ (mkF m 281 #[.val (.ref a1), .val (.int p2), .val (.int p3), .val (.int (p3 - p2)), .val (.int (own_c bs p2 0)), .val (.int (4 : Int32)), .val (.int (own_cp (own_cp (own_cp (own_c bs p2 0 &&& (7 : Int32)) (own_c bs p2 1)) (own_c bs p2 2)) (own_c bs p2 3))), .val (.int (65536 : Int32)), .val (.int (own_c bs p2 1)), .val (.int (own_c bs p2 3))] [(.int (0 : Int32))])
                          refine Rch.retI X0 hx hlk Bd.returns (hb hby d5_281) (by decide) (by decide) ?_
                          unfold Qrm5
                          exact ⟨by simp only [own_sq, own_sq2, own_sq3, own_sq4, own_chk, hc18, hc32, hc62, hc92, hc117, hc142, hc186, hc230, hc252, hc261, hc268, hc277, if_true, if_false], N0, e0⟩
                        · skip
                          refine Rch.go (fun _ q => XS.icmpYes X0.here hx rfl (pc0 := 277) (pc' := 282) rfl (hb hby d5_277) rfl (flt hc277).2.2.2 (by decide) (by decide) q) ?_
                          show Rch p ev below _ s₁ (mkF m 282 #[.val (.ref a1), .val (.int p2), .val (.int p3), .val (.int (p3 - p2)), .val (.int (own_c bs p2 0)), .val (.int (4 : Int32)), .val (.int (own_cp (own_cp (own_cp (own_c bs p2 0 &&& (7 : Int32)) (own_c bs p2 1)) (own_c bs p2 2)) (own_c bs p2 3))), .val (.int (65536 : Int32)), .val (.int (own_c bs p2 1)), .val (.int (own_c bs p2 3))] [])
                          refine Rch.go (fun _ q => XS.iload X0.here hx rfl (hb hby d5_282) rfl  q) ?_
                          show Rch p ev below _ s₁ (mkF m 284 #[.val (.ref a1), .val (.int p2), .val (.int p3), .val (.int (p3 - p2)), .val (.int (own_c bs p2 0)), .val (.int (4 : Int32)), .val (.int (own_cp (own_cp (own_cp (own_c bs p2 0 &&& (7 : Int32)) (own_c bs p2 1)) (own_c bs p2 2)) (own_c bs p2 3))), .val (.int (65536 : Int32)), .val (.int (own_c bs p2 1)), .val (.int (own_c bs p2 3))] [(.int (4 : Int32))])
                          refine Rch.retI X0 hx hlk Bd.returns (hb hby d5_284) (by decide) (by decide) ?_
                          unfold Qrm5
                          exact ⟨by simp only [own_sq, own_sq2, own_sq3, own_sq4, own_chk, hc18, hc32, hc62, hc92, hc117, hc142, hc186, hc230, hc252, hc261, hc268, hc277, if_true, if_false], N0, e0⟩
                      · skip
                        refine Rch.go (fun _ q => XS.icmpNo X0.here hx rfl (hb hby d5_268) rfl (flt hc268).2.2.1 q) ?_
                        show Rch p ev below _ s₁ (mkF m 271 #[.val (.ref a1), .val (.int p2), .val (.int p3), .val (.int (p3 - p2)), .val (.int (own_c bs p2 0)), .val (.int (4 : Int32)), .val (.int (own_cp (own_cp (own_cp (own_c bs p2 0 &&& (7 : Int32)) (own_c bs p2 1)) (own_c bs p2 2)) (own_c bs p2 3))), .val (.int (65536 : Int32)), .val (.int (own_c bs p2 1)), .val (.int (own_c bs p2 3))] [])
                        refine Rch.go (fun _ q => XS.iconst X0.here hx rfl (hb hby d5_271) q) ?_
                        show Rch p ev below _ s₁ (mkF m 272 #[.val (.ref a1), .val (.int p2), .val (.int p3), .val (.int (p3 - p2)), .val (.int (own_c bs p2 0)), .val (.int (4 : Int32)), .val (.int (own_cp (own_cp (own_cp (own_c bs p2 0 &&& (7 : Int32)) (own_c bs p2 1)) (own_c bs p2 2)) (own_c bs p2 3))), .val (.int (65536 : Int32)), .val (.int (own_c bs p2 1)), .val (.int (own_c bs p2 3))] [(.int (0 : Int32))])
                        refine Rch.retI X0 hx hlk Bd.returns (hb hby d5_272) (by decide) (by decide) ?_
                        unfold Qrm5
                        exact ⟨by simp only [own_sq, own_sq2, own_sq3, own_sq4, own_chk, hc18, hc32, hc62, hc92, hc117, hc142, hc186, hc230, hc252, hc261, hc268, if_true, if_false], N0, e0⟩
                · skip
                  refine Rch.go (fun _ q => XS.icmpNo X0.here hx rfl (hb hby d5_230) rfl (feq hc230).1 q) ?_
                  show Rch p ev below _ s₁ (mkF m 233 #[.val (.ref a1), .val (.int p2), .val (.int p3), .val (.int (p3 - p2)), .val (.int (own_c bs p2 0)), .val (.int (4 : Int32)), .val (.int (own_cp (own_cp (own_c bs p2 0 &&& (7 : Int32)) (own_c bs p2 1)) (own_c bs p2 2))), .val (.int (65536 : Int32)), .val (.int (own_c bs p2 1)), .val (.int (own_c bs p2 3))] [])
                  refine Rch.go (fun _ q => XS.iconst X0.here hx rfl (hb hby d5_233) q) ?_
                  show Rch p ev below _ s₁ (mkF m 234 #[.val (.ref a1), .val (.int p2), .val (.int p3), .val (.int (p3 - p2)), .val (.int (own_c bs p2 0)), .val (.int (4 : Int32)), .val (.int (own_cp (own_cp (own_c bs p2 0 &&& (7 : Int32)) (own_c bs p2 1)) (own_c bs p2 2))), .val (.int (65536 : Int32)), .val (.int (own_c bs p2 1)), .val (.int (own_c bs p2 3))] [(.int (0 : Int32))])
                  refine Rch.retI X0 hx hlk Bd.returns (hb hby d5_234) (by decide) (by decide) ?_
                  unfold Qrm5
                  exact ⟨by simp only [own_sq, own_sq2, own_sq3, own_sq4, own_chk, hc18, hc32, hc62, hc92, hc117, hc142, hc186, hc230, if_true, if_false], N0, e0⟩
              · skip
                refine Rch.go (fun _ q => XS.icmpNo X0.here hx rfl (hb hby d5_186) rfl (feq hc186).1 q) ?_
                show Rch p ev below _ s₁ (mkF m 189 #[.val (.ref a1), .val (.int p2), .val (.int p3), .val (.int (p3 - p2)), .val (.int (own_c bs p2 0)), .val (.int (4 : Int32)), .val (.int (own_cp (own_c bs p2 0 &&& (7 : Int32)) (own_c bs p2 1))), .val (.int (65536 : Int32)), .val (.int (own_c bs p2 1)), .val (.int (own_c bs p2 2))] [])
                refine Rch.go (fun _ q => XS.iconst X0.here hx rfl (hb hby d5_189) q) ?_
                show Rch p ev below _ s₁ (mkF m 190 #[.val (.ref a1), .val (.int p2), .val (.int p3), .val (.int (p3 - p2)), .val (.int (own_c bs p2 0)), .val (.int (4 : Int32)), .val (.int (own_cp (own_c bs p2 0 &&& (7 : Int32)) (own_c bs p2 1))), .val (.int (65536 : Int32)), .val (.int (own_c bs p2 1)), .val (.int (own_c bs p2 2))] [(.int (0 : Int32))])
                refine Rch.retI X0 hx hlk Bd.returns (hb hby d5_190) (by decide) (by decide) ?_
                unfold Qrm5
                exact ⟨by simp only [own_sq, own_sq2, own_sq3, own_sq4, own_chk, hc18, hc32, hc62, hc92, hc117, hc142, hc186, if_true, if_false], N0, e0⟩
            · skip
              refine Rch.go (fun _ q => XS.icmpNo X0.here hx rfl (hb hby d5_142) rfl (feq hc142).1 q) ?_
              show Rch p ev below _ s₁ (mkF m 145 #[.val (.ref a1), .val (.int p2), .val (.int p3), .val (.int (p3 - p2)), .val (.int (own_c bs p2 0)), .val (.int (4 : Int32)), .val (.int ((own_c bs p2 0) &&& (7 : Int32))), .val (.int (65536 : Int32)), .val (.int (own_c bs p2 1)), .unset] [])
              refine Rch.go (fun _ q => XS.iconst X0.here hx rfl (hb hby d5_145) q) ?_
              show Rch p ev below _ s₁ (mkF m 146 #[.val (.ref a1), .val (.int p2), .val (.int p3), .val (.int (p3 - p2)), .val (.int (own_c bs p2 0)), .val (.int (4 : Int32)), .val (.int ((own_c bs p2 0) &&& (7 : Int32))), .val (.int (65536 : Int32)), .val (.int (own_c bs p2 1)), .unset] [(.int (0 : Int32))])
              refine Rch.retI X0 hx hlk Bd.returns (hb hby d5_146) (by decide) (by decide) ?_
              unfold Qrm5
              exact ⟨by simp only [own_sq, own_sq2, own_sq3, own_sq4, own_chk, hc18, hc32, hc62, hc92, hc117, hc142, if_true, if_false], N0, e0⟩
        · skip
          refine Rch.go (fun _ q => XS.icmpYes X0.here hx rfl (pc0 := 92) (pc' := 112) rfl (hb hby d5_92) rfl (feq hc92).2 (by decide) (by decide) q) ?_
          show Rch p ev below _ s₁ (mkF m 112 #[.val (.ref a1), .val (.int p2), .val (.int p3), .val (.int (p3 - p2)), .val (.int (own_c bs p2 0)), .unset, .unset, .unset, .unset, .unset] [])
          refine Rch.go (fun _ q => XS.iconst X0.here hx rfl (hb hby d5_112) q) ?_
          show Rch p ev below _ s₁ (mkF m 113 #[.val (.ref a1), .val (.int p2), .val (.int p3), .val (.int (p3 - p2)), .val (.int (own_c bs p2 0)), .unset, .unset, .unset, .unset, .unset] [(.int (0 : Int32))])
          refine Rch.retI X0 hx hlk Bd.returns (hb hby d5_113) (by decide) (by decide) ?_
          unfold Qrm5
          exact ⟨by simp only [own_sq, own_sq2, own_sq3, own_sq4, own_chk, hc18, hc32, hc62, hc92, if_true, if_false], N0, e0⟩
theorem own_pn5 : plainFor (⟨"com/example/slicewright/slicewright/runtime/Utf8WellFormedUpToPinLaw", "expected", "([BII)I"⟩ : MethodName) = true := by first | exact plainFor_of_name (by first | (simp [plainName, overriddenIn]; done) | decide +kernel) | decide +kernel
theorem d6_0 : decode method_3_code 0 = .ok (.iload_n 1, 1) := by decide +kernel
theorem d6_1 : decode method_3_code 1 = .ok (.istore_n 3, 1) := by decide +kernel
theorem d6_2 : decode method_3_code 2 = .ok (.iload_n 3, 1) := by decide +kernel
theorem d6_3 : decode method_3_code 3 = .ok (.iload_n 2, 1) := by decide +kernel
theorem d6_4 : decode method_3_code 4 = .ok (.if_icmp .lt 5, 3) := by decide +kernel
theorem d6_7 : decode method_3_code 7 = .ok (.iload_n 2, 1) := by decide +kernel
theorem d6_8 : decode method_3_code 8 = .ok (.ireturn, 1) := by decide +kernel
theorem d6_9 : decode method_3_code 9 = .ok (.aload_n 0, 1) := by decide +kernel
theorem d6_10 : decode method_3_code 10 = .ok (.iload_n 3, 1) := by decide +kernel
theorem d6_11 : decode method_3_code 11 = .ok (.iload_n 2, 1) := by decide +kernel
theorem d6_12 : decode method_3_code 12 = .ok (.invokestatic 19, 3) := by decide +kernel
theorem d6_15 : decode method_3_code 15 = .ok (.istore 4, 2) := by decide +kernel
theorem d6_17 : decode method_3_code 17 = .ok (.iload 4, 2) := by decide +kernel
theorem d6_19 : decode method_3_code 19 = .ok (.ifCond .ne 5, 3) := by decide +kernel
theorem d6_22 : decode method_3_code 22 = .ok (.iload_n 3, 1) := by decide +kernel
theorem d6_23 : decode method_3_code 23 = .ok (.ireturn, 1) := by decide +kernel
theorem d6_24 : decode method_3_code 24 = .ok (.iload_n 3, 1) := by decide +kernel
theorem d6_25 : decode method_3_code 25 = .ok (.iload 4, 2) := by decide +kernel
theorem d6_27 : decode method_3_code 27 = .ok (.iadd, 1) := by decide +kernel
theorem d6_28 : decode method_3_code 28 = .ok (.istore_n 3, 1) := by decide +kernel
theorem d6_29 : decode method_3_code 29 = .ok (.iload_n 3, 1) := by decide +kernel
theorem d6_30 : decode method_3_code 30 = .ok (.iload_n 2, 1) := by decide +kernel
theorem d6_31 : decode method_3_code 31 = .ok (.if_icmp .lt 5, 3) := by decide +kernel
theorem d6_34 : decode method_3_code 34 = .ok (.iload_n 2, 1) := by decide +kernel
theorem d6_35 : decode method_3_code 35 = .ok (.ireturn, 1) := by decide +kernel
theorem d6_36 : decode method_3_code 36 = .ok (.aload_n 0, 1) := by decide +kernel
theorem d6_37 : decode method_3_code 37 = .ok (.iload_n 3, 1) := by decide +kernel
theorem d6_38 : decode method_3_code 38 = .ok (.iload_n 2, 1) := by decide +kernel
theorem d6_39 : decode method_3_code 39 = .ok (.invokestatic 19, 3) := by decide +kernel
theorem d6_42 : decode method_3_code 42 = .ok (.istore 4, 2) := by decide +kernel
theorem d6_44 : decode method_3_code 44 = .ok (.iload 4, 2) := by decide +kernel
theorem d6_46 : decode method_3_code 46 = .ok (.ifCond .ne 5, 3) := by decide +kernel
theorem d6_49 : decode method_3_code 49 = .ok (.iload_n 3, 1) := by decide +kernel
theorem d6_50 : decode method_3_code 50 = .ok (.ireturn, 1) := by decide +kernel
theorem d6_51 : decode method_3_code 51 = .ok (.iload_n 3, 1) := by decide +kernel
theorem d6_52 : decode method_3_code 52 = .ok (.iload 4, 2) := by decide +kernel
theorem d6_54 : decode method_3_code 54 = .ok (.iadd, 1) := by decide +kernel
theorem d6_55 : decode method_3_code 55 = .ok (.istore_n 3, 1) := by decide +kernel
theorem d6_56 : decode method_3_code 56 = .ok (.iload_n 3, 1) := by decide +kernel
theorem d6_57 : decode method_3_code 57 = .ok (.iload_n 2, 1) := by decide +kernel
theorem d6_58 : decode method_3_code 58 = .ok (.if_icmp .lt 5, 3) := by decide +kernel
theorem d6_61 : decode method_3_code 61 = .ok (.iload_n 2, 1) := by decide +kernel
theorem d6_62 : decode method_3_code 62 = .ok (.ireturn, 1) := by decide +kernel
theorem d6_63 : decode method_3_code 63 = .ok (.aload_n 0, 1) := by decide +kernel
theorem d6_64 : decode method_3_code 64 = .ok (.iload_n 3, 1) := by decide +kernel
theorem d6_65 : decode method_3_code 65 = .ok (.iload_n 2, 1) := by decide +kernel
theorem d6_66 : decode method_3_code 66 = .ok (.invokestatic 19, 3) := by decide +kernel
theorem d6_69 : decode method_3_code 69 = .ok (.istore 4, 2) := by decide +kernel
theorem d6_71 : decode method_3_code 71 = .ok (.iload 4, 2) := by decide +kernel
theorem d6_73 : decode method_3_code 73 = .ok (.ifCond .ne 5, 3) := by decide +kernel
theorem d6_76 : decode method_3_code 76 = .ok (.iload_n 3, 1) := by decide +kernel
theorem d6_77 : decode method_3_code 77 = .ok (.ireturn, 1) := by decide +kernel
theorem d6_78 : decode method_3_code 78 = .ok (.iload_n 3, 1) := by decide +kernel
theorem d6_79 : decode method_3_code 79 = .ok (.iload 4, 2) := by decide +kernel
theorem d6_81 : decode method_3_code 81 = .ok (.iadd, 1) := by decide +kernel
theorem d6_82 : decode method_3_code 82 = .ok (.istore_n 3, 1) := by decide +kernel
theorem d6_83 : decode method_3_code 83 = .ok (.iload_n 3, 1) := by decide +kernel
theorem d6_84 : decode method_3_code 84 = .ok (.iload_n 2, 1) := by decide +kernel
theorem d6_85 : decode method_3_code 85 = .ok (.if_icmp .lt 5, 3) := by decide +kernel
theorem d6_88 : decode method_3_code 88 = .ok (.iload_n 2, 1) := by decide +kernel
theorem d6_89 : decode method_3_code 89 = .ok (.ireturn, 1) := by decide +kernel
theorem d6_90 : decode method_3_code 90 = .ok (.aload_n 0, 1) := by decide +kernel
theorem d6_91 : decode method_3_code 91 = .ok (.iload_n 3, 1) := by decide +kernel
theorem d6_92 : decode method_3_code 92 = .ok (.iload_n 2, 1) := by decide +kernel
theorem d6_93 : decode method_3_code 93 = .ok (.invokestatic 19, 3) := by decide +kernel
theorem d6_96 : decode method_3_code 96 = .ok (.istore 4, 2) := by decide +kernel
theorem d6_98 : decode method_3_code 98 = .ok (.iload 4, 2) := by decide +kernel
theorem d6_100 : decode method_3_code 100 = .ok (.ifCond .ne 5, 3) := by decide +kernel
theorem d6_103 : decode method_3_code 103 = .ok (.iload_n 3, 1) := by decide +kernel
theorem d6_104 : decode method_3_code 104 = .ok (.ireturn, 1) := by decide +kernel
theorem d6_105 : decode method_3_code 105 = .ok (.iload_n 3, 1) := by decide +kernel
theorem d6_106 : decode method_3_code 106 = .ok (.iload 4, 2) := by decide +kernel
theorem d6_108 : decode method_3_code 108 = .ok (.iadd, 1) := by decide +kernel
theorem d6_109 : decode method_3_code 109 = .ok (.istore_n 3, 1) := by decide +kernel
theorem d6_110 : decode method_3_code 110 = .ok (.iload_n 3, 1) := by decide +kernel
theorem d6_111 : decode method_3_code 111 = .ok (.iload_n 2, 1) := by decide +kernel
theorem d6_112 : decode method_3_code 112 = .ok (.if_icmp .lt 5, 3) := by decide +kernel
theorem d6_115 : decode method_3_code 115 = .ok (.iload_n 2, 1) := by decide +kernel
theorem d6_116 : decode method_3_code 116 = .ok (.ireturn, 1) := by decide +kernel
theorem d6_117 : decode method_3_code 117 = .ok (.aload_n 0, 1) := by decide +kernel
theorem d6_118 : decode method_3_code 118 = .ok (.iload_n 3, 1) := by decide +kernel
theorem d6_119 : decode method_3_code 119 = .ok (.iload_n 2, 1) := by decide +kernel
theorem d6_120 : decode method_3_code 120 = .ok (.invokestatic 19, 3) := by decide +kernel
theorem d6_123 : decode method_3_code 123 = .ok (.istore 4, 2) := by decide +kernel
theorem d6_125 : decode method_3_code 125 = .ok (.iload 4, 2) := by decide +kernel
theorem d6_127 : decode method_3_code 127 = .ok (.ifCond .ne 5, 3) := by decide +kernel
theorem d6_130 : decode method_3_code 130 = .ok (.iload_n 3, 1) := by decide +kernel
theorem d6_131 : decode method_3_code 131 = .ok (.ireturn, 1) := by decide +kernel
theorem d6_132 : decode method_3_code 132 = .ok (.iload_n 3, 1) := by decide +kernel
theorem d6_133 : decode method_3_code 133 = .ok (.iload 4, 2) := by decide +kernel
theorem d6_135 : decode method_3_code 135 = .ok (.iadd, 1) := by decide +kernel
theorem d6_136 : decode method_3_code 136 = .ok (.istore_n 3, 1) := by decide +kernel
theorem d6_137 : decode method_3_code 137 = .ok (.iload_n 3, 1) := by decide +kernel
theorem d6_138 : decode method_3_code 138 = .ok (.iload_n 2, 1) := by decide +kernel
theorem d6_139 : decode method_3_code 139 = .ok (.if_icmp .lt 5, 3) := by decide +kernel
theorem d6_142 : decode method_3_code 142 = .ok (.iload_n 2, 1) := by decide +kernel
theorem d6_143 : decode method_3_code 143 = .ok (.ireturn, 1) := by decide +kernel
theorem d6_144 : decode method_3_code 144 = .ok (.aload_n 0, 1) := by decide +kernel
theorem d6_145 : decode method_3_code 145 = .ok (.iload_n 3, 1) := by decide +kernel
theorem d6_146 : decode method_3_code 146 = .ok (.iload_n 2, 1) := by decide +kernel
theorem d6_147 : decode method_3_code 147 = .ok (.invokestatic 19, 3) := by decide +kernel
theorem d6_150 : decode method_3_code 150 = .ok (.istore 4, 2) := by decide +kernel
theorem d6_152 : decode method_3_code 152 = .ok (.iload 4, 2) := by decide +kernel
theorem d6_154 : decode method_3_code 154 = .ok (.ifCond .ne 5, 3) := by decide +kernel
theorem d6_157 : decode method_3_code 157 = .ok (.iload_n 3, 1) := by decide +kernel
theorem d6_158 : decode method_3_code 158 = .ok (.ireturn, 1) := by decide +kernel
theorem d6_159 : decode method_3_code 159 = .ok (.iload_n 3, 1) := by decide +kernel
theorem d6_160 : decode method_3_code 160 = .ok (.iload 4, 2) := by decide +kernel
theorem d6_162 : decode method_3_code 162 = .ok (.iadd, 1) := by decide +kernel
theorem d6_163 : decode method_3_code 163 = .ok (.istore_n 3, 1) := by decide +kernel
theorem d6_164 : decode method_3_code 164 = .ok (.iload_n 2, 1) := by decide +kernel
theorem d6_165 : decode method_3_code 165 = .ok (.ireturn, 1) := by decide +kernel
theorem own_ef9 (m : MethodId) (x0 : Addr) (x1 : Int32) (x2 : Int32) : entryFrame m #[(.ref x0), (.int x1), (.int x2)] 5 = mkF m 0 #[.val (.ref x0), .val (.int x1), .val (.int x2), .unset, .unset] [] := by first | (simp [entryFrame, mkF, argsToLocals, Value.category, maxLocals]; done) | rfl
def Qrm6 (Z : State) (a1 : Addr) (p2 : Int32) (p3 : Int32) (k1 : ClassId) (bs : List Int32) (h0 : Heap) (n0 : Nat) : Option Value → Heap → List Loc → Prop := fun v h L => v = some (.int (own_wf (fun q => own_sq (own_c bs q 0) (own_c bs q 1) (own_c bs q 2) (own_c bs q 3) (p3 - q)) p3 6 p2)) ∧ Fr n0 L ∧ h = h0
set_option maxRecDepth 65536 in
set_option maxHeartbeats 40000000 in
theorem rm6 (l : Launch) (Z : State) (a0 : Array Value) (hw : ∀ d ∈ tables_1, d.before a0 Z = true) (ws : List Jvm.Cond) (a1 : Addr) (p2 : Int32) (p3 : Int32) (k1 : ClassId) (bs : List Int32) (h0 : Heap) (n0 : Nat) (Z0 : n0 ≤ h0.size) (V1 : Arv Z h0 a1 k1 .byte (6 : Int32) (bs.map Value.int) (.int 0)) (hi0 : 0 ≤ p2.toInt) (hft : p2.toInt ≤ p3.toInt) (ht6 : p3.toInt ≤ 6) :
    MetFree l (⟨"com/example/slicewright/slicewright/runtime/Utf8WellFormedUpToPinLaw", "expected", "([BII)I"⟩ : MethodName) (head1 (Jvm.Cond.code (⟨"com/example/slicewright/slicewright/runtime/Utf8WellFormedUpToPinLaw", "expected", "([BII)I"⟩ : MethodName) method_3_code 5 (some .int) :: ws) ({ frames := 1, cells := 0, slots := 0, locals := 32 } : Room)) (fun a U => a = #[(.ref a1), (.int p2), (.int p3)] ∧ Z.Warmed39 U.vm ∧ U.heap = h0) (fun _ _ _ _ _ => True) (fun _ U o U' => ∃ v L, o = .returned v ∧ (Qrm6 Z a1 p2 p3 k1 bs h0 n0) v U'.heap L ∧ FrameEnd U o U' L ({ frames := 1, cells := 0, slots := 0, locals := 32 } : Room).cells ({ frames := 1, cells := 0, slots := 0, locals := 32 } : Room).slots) := by
  refine MetFree.of_bodySF own_pn5 hisR ?_
  intro p ev s m args below meth c s₁ Bd hml0 hP hK
  obtain ⟨rfl, hZ, hh⟩ := hP
  have hx := Bd.exec
  have hby := Bd.bytes
  have hlk := Bd.notSynchronized
  have hml : c.maxLocals = 5 := hml0
  have hown : s.vm.findClass "com/example/slicewright/slicewright/runtime/Utf8WellFormedUpToPinLaw" = some m.cls := findClass_of_methodNamed Bd.named
  have hnm := (name_of_methodNamed Bd.named Bd.method).1
  have X0 : Stand p l ev ({ frames := 1, cells := 0, slots := 0, locals := 32 } : Room) s m #[(.ref a1), (.int p2), (.int p3)] below meth c s₁ [] 0 0 := Stand.of_body Bd
  have e0 : s₁.heap = h0 := by rw [← hh, Bd.state]; rfl
  have N0 := Fr.nil n0
  refine Rch.entry (G := (EndQ (Qrm6 Z a1 p2 p3 k1 bs h0 n0) s ({ frames := 1, cells := 0, slots := 0, locals := 32 } : Room).cells ({ frames := 1, cells := 0, slots := 0, locals := 32 } : Room).slots)) (own_ef9 m a1 p2 p3) ?_
  show Rch p ev below _ s₁ (mkF m 0 #[.val (.ref a1), .val (.int p2), .val (.int p3), .unset, .unset] [])
  obtain ⟨sg, hsg⟩ : ∃ q, q = (fun q => own_sq (own_c bs q 0) (own_c bs q 1) (own_c bs q 2) (own_c bs q 3) (p3 - q)) := ⟨_, rfl⟩
  have hbd : ∀ q : Int32, 0 ≤ q.toInt → q.toInt < p3.toInt → sg q = 0 ∨ (0 ≤ (q + sg q).toInt ∧ (q + sg q).toInt ≤ p3.toInt) := fun q h1 h2 => by rw [hsg]; exact own_sq_bd bs q p3 h1 h2 ht6
  refine Rch.go (fun _ q => XS.iloadN X0.here hx rfl (hb hby d6_0) rfl  q) ?_
  show Rch p ev below _ s₁ (mkF m 1 #[.val (.ref a1), .val (.int p2), .val (.int p3), .unset, .unset] [(.int p2)])
  refine Rch.go (fun _ q => XS.istoreN X0.here hx rfl (hb hby d6_1) rfl (l' := #[.val (.ref a1), .val (.int p2), .val (.int p3), .val (.int p2), .unset]) rfl q) ?_
  show Rch p ev below _ s₁ (mkF m 2 #[.val (.ref a1), .val (.int p2), .val (.int p3), .val (.int p2), .unset] [])
  refine Rch.go (fun _ q => XS.iloadN X0.here hx rfl (hb hby d6_2) rfl  q) ?_
  show Rch p ev below _ s₁ (mkF m 3 #[.val (.ref a1), .val (.int p2), .val (.int p3), .val (.int p2), .unset] [(.int p2)])
  refine Rch.go (fun _ q => XS.iloadN X0.here hx rfl (hb hby d6_3) rfl  q) ?_
  show Rch p ev below _ s₁ (mkF m 4 #[.val (.ref a1), .val (.int p2), .val (.int p3), .val (.int p2), .unset] [(.int p3), (.int p2)])
  by_cases hc4 : p2 < p3
  · skip
    refine Rch.go (fun _ q => XS.icmpYes X0.here hx rfl (pc0 := 4) (pc' := 9) rfl (hb hby d6_4) rfl (tlt hc4).1 (by decide) (by decide) q) ?_
    show Rch p ev below _ s₁ (mkF m 9 #[.val (.ref a1), .val (.int p2), .val (.int p3), .val (.int p2), .unset] [])
    refine Rch.go (fun _ q => XS.aloadN X0.here hx rfl (hb hby d6_9) rfl rfl q) ?_
    show Rch p ev below _ s₁ (mkF m 10 #[.val (.ref a1), .val (.int p2), .val (.int p3), .val (.int p2), .unset] [(.ref a1)])
    refine Rch.go (fun _ q => XS.iloadN X0.here hx rfl (hb hby d6_10) rfl  q) ?_
    show Rch p ev below _ s₁ (mkF m 11 #[.val (.ref a1), .val (.int p2), .val (.int p3), .val (.int p2), .unset] [(.int p2), (.ref a1)])
    refine Rch.go (fun _ q => XS.iloadN X0.here hx rfl (hb hby d6_11) rfl  q) ?_
    show Rch p ev below _ s₁ (mkF m 12 #[.val (.ref a1), .val (.int p2), .val (.int p3), .val (.int p2), .unset] [(.int p3), (.int p2), (.ref a1)])
    obtain ⟨_, _, ⟨T101, L101, k101, n101⟩, -, X101, ⟨Lc101, hQ101, l101, y101, z101⟩, st101⟩ := Jvm.LawKit.callS X0 hx (y := (⟨"com/example/slicewright/slicewright/runtime/Utf8WellFormedUpToPinLaw", "seq", "([BII)I"⟩ : MethodName)) hown (mvT hZ (hw _ (List.mem_of_getElem? (i := 16) rfl))) (mvT hZ (hw _ (List.mem_of_getElem? (i := 17) rfl))) (mvT hZ (hw _ (List.mem_of_getElem? (i := 14) rfl))) (mvT hZ (hw _ (List.mem_of_getElem? (i := 18) rfl))) (by decide) (backOf (W := 0) (rm5 l Z a0 hw [] a1 p2 p3 k1 bs h0 n0 Z0 V1 hi0 (Int32.lt_iff_toInt_lt.mp hc4) ht6) hZ (hw _ (List.mem_of_getElem? (i := 18) rfl)) (hw _ (List.mem_of_getElem? (i := 14) rfl)) (by decide) (by decide)) (g := (mkF m 12 #[.val (.ref a1), .val (.int p2), .val (.int p3), .val (.int p2), .unset] [(.int p3), (.int p2), (.ref a1)])) rfl (by rw [hml]; rfl) (argsL := [(.ref a1), (.int p2), (.int p3)]) (rest := []) (lenOf own_pd3 rfl) rfl (by show 2 * 0 + _ ≤ _; exact Nat.le_of_eq rfl) (hb hby d6_12) (fun _ _ => ⟨rfl, e0, (by decide : 0 + 0 ≤ _), (by decide : 0 + 0 ≤ _)⟩)
    dsimp only [Pt.U, Pt.locs, Pt.cells, Pt.slots] at X101 l101 y101 z101 st101 hQ101
    subst l101 y101 z101
    obtain ⟨rfl, Nc, ec⟩ := hQ101
    refine Rch.go st101 ?_
    show Rch p ev below _ T101 (mkF m 15 #[.val (.ref a1), .val (.int p2), .val (.int p3), .val (.int p2), .unset] [(.int ((fun q => own_sq (own_c bs q 0) (own_c bs q 1) (own_c bs q 2) (own_c bs q 3) (p3 - q)) p2))])
    have N101 := Fr.app N0 Nc
    have e101 := ec
    rw [← hsg]
    show Rch p ev below _ T101 (mkF m 15 #[.val (.ref a1), .val (.int p2), .val (.int p3), .val (.int p2), .unset] [(.int (sg p2))])
    refine Rch.go (fun _ q => XS.istore X101.here hx rfl (hb hby d6_15) rfl (l' := #[.val (.ref a1), .val (.int p2), .val (.int p3), .val (.int p2), .val (.int (sg p2))]) rfl q) ?_
    show Rch p ev below _ T101 (mkF m 17 #[.val (.ref a1), .val (.int p2), .val (.int p3), .val (.int p2), .val (.int (sg p2))] [])
    refine Rch.go (fun _ q => XS.iload X101.here hx rfl (hb hby d6_17) rfl  q) ?_
    show Rch p ev below _ T101 (mkF m 19 #[.val (.ref a1), .val (.int p2), .val (.int p3), .val (.int p2), .val (.int (sg p2))] [(.int (sg p2))])
    by_cases hc19 : (sg p2) = (0 : Int32)
    · skip
      refine Rch.go (fun _ q => XS.ifNo X101.here hx rfl (hb hby d6_19) rfl ((if0 _ _).trans (teq hc19).2) q) ?_
      show Rch p ev below _ T101 (mkF m 22 #[.val (.ref a1), .val (.int p2), .val (.int p3), .val (.int p2), .val (.int (sg p2))] [])
      refine Rch.go (fun _ q => XS.iloadN X101.here hx rfl (hb hby d6_22) rfl  q) ?_
      show Rch p ev below _ T101 (mkF m 23 #[.val (.ref a1), .val (.int p2), .val (.int p3), .val (.int p2), .val (.int (sg p2))] [(.int p2)])
      refine Rch.retI X101 hx hlk Bd.returns (hb hby d6_23) (by decide) (by decide) ?_
      unfold Qrm6
      exact ⟨by rw [← hsg]; simp only [own_wf, hc4, hc19, if_true, if_false], N101, e101⟩
    · skip
      refine Rch.go (fun _ q => XS.ifYes X101.here hx rfl (pc0 := 19) (pc' := 24) rfl (hb hby d6_19) rfl ((if0 _ _).trans (feq hc19).2) (by decide) (by decide) q) ?_
      show Rch p ev below _ T101 (mkF m 24 #[.val (.ref a1), .val (.int p2), .val (.int p3), .val (.int p2), .val (.int (sg p2))] [])
      refine Rch.go (fun _ q => XS.iloadN X101.here hx rfl (hb hby d6_24) rfl  q) ?_
      show Rch p ev below _ T101 (mkF m 25 #[.val (.ref a1), .val (.int p2), .val (.int p3), .val (.int p2), .val (.int (sg p2))] [(.int p2)])
      refine Rch.go (fun _ q => XS.iload X101.here hx rfl (hb hby d6_25) rfl  q) ?_
      show Rch p ev below _ T101 (mkF m 27 #[.val (.ref a1), .val (.int p2), .val (.int p3), .val (.int p2), .val (.int (sg p2))] [(.int (sg p2)), (.int p2)])
      refine Rch.go (fun _ q => XS.iadd X101.here hx rfl (hb hby d6_27) rfl q) ?_
      show Rch p ev below _ T101 (mkF m 28 #[.val (.ref a1), .val (.int p2), .val (.int p3), .val (.int p2), .val (.int (sg p2))] [(.int (p2 + (sg p2)))])
      refine Rch.go (fun _ q => XS.istoreN X101.here hx rfl (hb hby d6_28) rfl (l' := #[.val (.ref a1), .val (.int p2), .val (.int p3), .val (.int (p2 + (sg p2))), .val (.int (sg p2))]) rfl q) ?_
      show Rch p ev below _ T101 (mkF m 29 #[.val (.ref a1), .val (.int p2), .val (.int p3), .val (.int (p2 + (sg p2))), .val (.int (sg p2))] [])
      obtain ⟨ii102, g_ii102⟩ : ∃ q, q = (p2 + (sg p2)) := ⟨_, rfl⟩
      rw [← g_ii102]
      have hb102 := (hbd p2 hi0 (Int32.lt_iff_toInt_lt.mp hc4)).resolve_left hc19
      rw [← g_ii102] at hb102
      show Rch p ev below _ T101 (mkF m 29 #[.val (.ref a1), .val (.int p2), .val (.int p3), .val (.int ii102), .val (.int (sg p2))] [])
      refine Rch.go (fun _ q => XS.iloadN X101.here hx rfl (hb hby d6_29) rfl  q) ?_
      show Rch p ev below _ T101 (mkF m 30 #[.val (.ref a1), .val (.int p2), .val (.int p3), .val (.int ii102), .val (.int (sg p2))] [(.int ii102)])
      refine Rch.go (fun _ q => XS.iloadN X101.here hx rfl (hb hby d6_30) rfl  q) ?_
      show Rch p ev below _ T101 (mkF m 31 #[.val (.ref a1), .val (.int p2), .val (.int p3), .val (.int ii102), .val (.int (sg p2))] [(.int p3), (.int ii102)])
      by_cases hc31 : ii102 < p3
      · skip
        refine Rch.go (fun _ q => XS.icmpYes X101.here hx rfl (pc0 := 31) (pc' := 36) rfl (hb hby d6_31) rfl (tlt hc31).1 (by decide) (by decide) q) ?_
        show Rch p ev below _ T101 (mkF m 36 #[.val (.ref a1), .val (.int p2), .val (.int p3), .val (.int ii102), .val (.int (sg p2))] [])
        refine Rch.go (fun _ q => XS.aloadN X101.here hx rfl (hb hby d6_36) rfl rfl q) ?_
        show Rch p ev below _ T101 (mkF m 37 #[.val (.ref a1), .val (.int p2), .val (.int p3), .val (.int ii102), .val (.int (sg p2))] [(.ref a1)])
        refine Rch.go (fun _ q => XS.iloadN X101.here hx rfl (hb hby d6_37) rfl  q) ?_
        show Rch p ev below _ T101 (mkF m 38 #[.val (.ref a1), .val (.int p2), .val (.int p3), .val (.int ii102), .val (.int (sg p2))] [(.int ii102), (.ref a1)])
        refine Rch.go (fun _ q => XS.iloadN X101.here hx rfl (hb hby d6_38) rfl  q) ?_
        show Rch p ev below _ T101 (mkF m 39 #[.val (.ref a1), .val (.int p2), .val (.int p3), .val (.int ii102), .val (.int (sg p2))] [(.int p3), (.int ii102), (.ref a1)])
        obtain ⟨_, _, ⟨T103, L103, k103, n103⟩, -, X103, ⟨Lc103, hQ103, l103, y103, z103⟩, st103⟩ := Jvm.LawKit.callS X101 hx (y := (⟨"com/example/slicewright/slicewright/runtime/Utf8WellFormedUpToPinLaw", "seq", "([BII)I"⟩ : MethodName)) hown (mvT hZ (hw _ (List.mem_of_getElem? (i := 16) rfl))) (mvT hZ (hw _ (List.mem_of_getElem? (i := 17) rfl))) (mvT hZ (hw _ (List.mem_of_getElem? (i := 14) rfl))) (mvT hZ (hw _ (List.mem_of_getElem? (i := 18) rfl))) (by decide) (backOf (W := 0) (rm5 l Z a0 hw [] a1 ii102 p3 k1 bs h0 n0 Z0 V1 hb102.1 (Int32.lt_iff_toInt_lt.mp hc31) ht6) hZ (hw _ (List.mem_of_getElem? (i := 18) rfl)) (hw _ (List.mem_of_getElem? (i := 14) rfl)) (by decide) (by decide)) (g := (mkF m 39 #[.val (.ref a1), .val (.int p2), .val (.int p3), .val (.int ii102), .val (.int (sg p2))] [(.int p3), (.int ii102), (.ref a1)])) rfl (by rw [hml]; rfl) (argsL := [(.ref a1), (.int ii102), (.int p3)]) (rest := []) (lenOf own_pd3 rfl) rfl (by show 2 * 0 + _ ≤ _; exact Nat.le_of_eq rfl) (hb hby d6_39) (fun _ _ => ⟨rfl, e101, (by decide : 0 + 0 ≤ _), (by decide : 0 + 0 ≤ _)⟩)
        dsimp only [Pt.U, Pt.locs, Pt.cells, Pt.slots] at X103 l103 y103 z103 st103 hQ103
        subst l103 y103 z103
        obtain ⟨rfl, Nc, ec⟩ := hQ103
        refine Rch.go st103 ?_
        show Rch p ev below _ T103 (mkF m 42 #[.val (.ref a1), .val (.int p2), .val (.int p3), .val (.int ii102), .val (.int (sg p2))] [(.int ((fun q => own_sq (own_c bs q 0) (own_c bs q 1) (own_c bs q 2) (own_c bs q 3) (p3 - q)) ii102))])
        have N103 := Fr.app N101 Nc
        have e103 := ec
        rw [← hsg]
        show Rch p ev below _ T103 (mkF m 42 #[.val (.ref a1), .val (.int p2), .val (.int p3), .val (.int ii102), .val (.int (sg p2))] [(.int (sg ii102))])
        refine Rch.go (fun _ q => XS.istore X103.here hx rfl (hb hby d6_42) rfl (l' := #[.val (.ref a1), .val (.int p2), .val (.int p3), .val (.int ii102), .val (.int (sg ii102))]) rfl q) ?_
        show Rch p ev below _ T103 (mkF m 44 #[.val (.ref a1), .val (.int p2), .val (.int p3), .val (.int ii102), .val (.int (sg ii102))] [])
        refine Rch.go (fun _ q => XS.iload X103.here hx rfl (hb hby d6_44) rfl  q) ?_
        show Rch p ev below _ T103 (mkF m 46 #[.val (.ref a1), .val (.int p2), .val (.int p3), .val (.int ii102), .val (.int (sg ii102))] [(.int (sg ii102))])
        by_cases hc46 : (sg ii102) = (0 : Int32)
        · skip
          refine Rch.go (fun _ q => XS.ifNo X103.here hx rfl (hb hby d6_46) rfl ((if0 _ _).trans (teq hc46).2) q) ?_
          show Rch p ev below _ T103 (mkF m 49 #[.val (.ref a1), .val (.int p2), .val (.int p3), .val (.int ii102), .val (.int (sg ii102))] [])
          refine Rch.go (fun _ q => XS.iloadN X103.here hx rfl (hb hby d6_49) rfl  q) ?_
          show Rch p ev below _ T103 (mkF m 50 #[.val (.ref a1), .val (.int p2), .val (.int p3), .val (.int ii102), .val (.int (sg ii102))] [(.int ii102)])
          refine Rch.retI X103 hx hlk Bd.returns (hb hby d6_50) (by decide) (by decide) ?_
          unfold Qrm6
          exact ⟨by rw [← hsg]; simp only [own_wf, ← g_ii102, hc4, hc19, hc31, hc46, if_true, if_false], N103, e103⟩
        · skip
          refine Rch.go (fun _ q => XS.ifYes X103.here hx rfl (pc0 := 46) (pc' := 51) rfl (hb hby d6_46) rfl ((if0 _ _).trans (feq hc46).2) (by decide) (by decide) q) ?_
          show Rch p ev below _ T103 (mkF m 51 #[.val (.ref a1), .val (.int p2), .val (.int p3), .val (.int ii102), .val (.int (sg ii102))] [])
          refine Rch.go (fun _ q => XS.iloadN X103.here hx rfl (hb hby d6_51) rfl  q) ?_
          show Rch p ev below _ T103 (mkF m 52 #[.val (.ref a1), .val (.int p2), .val (.int p3), .val (.int ii102), .val (.int (sg ii102))] [(.int ii102)])
          refine Rch.go (fun _ q => XS.iload X103.here hx rfl (hb hby d6_52) rfl  q) ?_
          show Rch p ev below _ T103 (mkF m 54 #[.val (.ref a1), .val (.int p2), .val (.int p3), .val (.int ii102), .val (.int (sg ii102))] [(.int (sg ii102)), (.int ii102)])
          refine Rch.go (fun _ q => XS.iadd X103.here hx rfl (hb hby d6_54) rfl q) ?_
          show Rch p ev below _ T103 (mkF m 55 #[.val (.ref a1), .val (.int p2), .val (.int p3), .val (.int ii102), .val (.int (sg ii102))] [(.int (ii102 + (sg ii102)))])
          refine Rch.go (fun _ q => XS.istoreN X103.here hx rfl (hb hby d6_55) rfl (l' := #[.val (.ref a1), .val (.int p2), .val (.int p3), .val (.int (ii102 + (sg ii102))), .val (.int (sg ii102))]) rfl q) ?_
          show Rch p ev below _ T103 (mkF m 56 #[.val (.ref a1), .val (.int p2), .val (.int p3), .val (.int (ii102 + (sg ii102))), .val (.int (sg ii102))] [])
          obtain ⟨ii104, g_ii104⟩ : ∃ q, q = (ii102 + (sg ii102)) := ⟨_, rfl⟩
          rw [← g_ii104]
          have hb104 := (hbd ii102 hb102.1 (Int32.lt_iff_toInt_lt.mp hc31)).resolve_left hc46
          rw [← g_ii104] at hb104
          show Rch p ev below _ T103 (mkF m 56 #[.val (.ref a1), .val (.int p2), .val (.int p3), .val (.int ii104), .val (.int (sg ii102))] [])
          refine Rch.go (fun _ q => XS.iloadN X103.here hx rfl (hb hby d6_56) rfl  q) ?_
          show Rch p ev below _ T103 (mkF m 57 #[.val (.ref a1), .val (.int p2), .val (.int p3), .val (.int ii104), .val (.int (sg ii102))] [(.int ii104)])
          refine Rch.go (fun _ q => XS.iloadN X103.here hx rfl (hb hby d6_57) rfl  q) ?_
          show Rch p ev below _ T103 (mkF m 58 #[.val (.ref a1), .val (.int p2), .val (.int p3), .val (.int ii104), .val (.int (sg ii102))] [(.int p3), (.int ii104)])
          by_cases hc58 : ii104 < p3
          · skip
            refine Rch.go (fun _ q => XS.icmpYes X103.here hx rfl (pc0 := 58) (pc' := 63) rfl (hb hby d6_58) rfl (tlt hc58).1 (by decide) (by decide) q) ?_
            show Rch p ev below _ T103 (mkF m 63 #[.val (.ref a1), .val (.int p2), .val (.int p3), .val (.int ii104), .val (.int (sg ii102))] [])
            refine Rch.go (fun _ q => XS.aloadN X103.here hx rfl (hb hby d6_63) rfl rfl q) ?_
            show Rch p ev below _ T103 (mkF m 64 #[.val (.ref a1), .val (.int p2), .val (.int p3), .val (.int ii104), .val (.int (sg ii102))] [(.ref a1)])
            refine Rch.go (fun _ q => XS.iloadN X103.here hx rfl (hb hby d6_64) rfl  q) ?_
            show Rch p ev below _ T103 (mkF m 65 #[.val (.ref a1), .val (.int p2), .val (.int p3), .val (.int ii104), .val (.int (sg ii102))] [(.int ii104), (.ref a1)])
            refine Rch.go (fun _ q => XS.iloadN X103.here hx rfl (hb hby d6_65) rfl  q) ?_
            show Rch p ev below _ T103 (mkF m 66 #[.val (.ref a1), .val (.int p2), .val (.int p3), .val (.int ii104), .val (.int (sg ii102))] [(.int p3), (.int ii104), (.ref a1)])
            obtain ⟨_, _, ⟨T105, L105, k105, n105⟩, -, X105, ⟨Lc105, hQ105, l105, y105, z105⟩, st105⟩ := Jvm.LawKit.callS X103 hx (y := (⟨"com/example/slicewright/slicewright/runtime/Utf8WellFormedUpToPinLaw", "seq", "([BII)I"⟩ : MethodName)) hown (mvT hZ (hw _ (List.mem_of_getElem? (i := 16) rfl))) (mvT hZ (hw _ (List.mem_of_getElem? (i := 17) rfl))) (mvT hZ (hw _ (List.mem_of_getElem? (i := 14) rfl))) (mvT hZ (hw _ (List.mem_of_getElem? (i := 18) rfl))) (by decide) (backOf (W := 0) (rm5 l Z a0 hw [] a1 ii104 p3 k1 bs h0 n0 Z0 V1 hb104.1 (Int32.lt_iff_toInt_lt.mp hc58) ht6) hZ (hw _ (List.mem_of_getElem? (i := 18) rfl)) (hw _ (List.mem_of_getElem? (i := 14) rfl)) (by decide) (by decide)) (g := (mkF m 66 #[.val (.ref a1), .val (.int p2), .val (.int p3), .val (.int ii104), .val (.int (sg ii102))] [(.int p3), (.int ii104), (.ref a1)])) rfl (by rw [hml]; rfl) (argsL := [(.ref a1), (.int ii104), (.int p3)]) (rest := []) (lenOf own_pd3 rfl) rfl (by show 2 * 0 + _ ≤ _; exact Nat.le_of_eq rfl) (hb hby d6_66) (fun _ _ => ⟨rfl, e103, (by decide : 0 + 0 ≤ _), (by decide : 0 + 0 ≤ _)⟩)
            dsimp only [Pt.U, Pt.locs, Pt.cells, Pt.slots] at X105 l105 y105 z105 st105 hQ105
            subst l105 y105 z105
            obtain ⟨rfl, Nc, ec⟩ := hQ105
            refine Rch.go st105 ?_
            show Rch p ev below _ T105 (mkF m 69 #[.val (.ref a1), .val (.int p2), .val (.int p3), .val (.int ii104), .val (.int (sg ii102))] [(.int ((fun q => own_sq (own_c bs q 0) (own_c bs q 1) (own_c bs q 2) (own_c bs q 3) (p3 - q)) ii104))])
            have N105 := Fr.app N103 Nc
            have e105 := ec
            rw [← hsg]
            show Rch p ev below _ T105 (mkF m 69 #[.val (.ref a1), .val (.int p2), .val (.int p3), .val (.int ii104), .val (.int (sg ii102))] [(.int (sg ii104))])
            refine Rch.go (fun _ q => XS.istore X105.here hx rfl (hb hby d6_69) rfl (l' := #[.val (.ref a1), .val (.int p2), .val (.int p3), .val (.int ii104), .val (.int (sg ii104))]) rfl q) ?_
            show Rch p ev below _ T105 (mkF m 71 #[.val (.ref a1), .val (.int p2), .val (.int p3), .val (.int ii104), .val (.int (sg ii104))] [])
            refine Rch.go (fun _ q => XS.iload X105.here hx rfl (hb hby d6_71) rfl  q) ?_
            show Rch p ev below _ T105 (mkF m 73 #[.val (.ref a1), .val (.int p2), .val (.int p3), .val (.int ii104), .val (.int (sg ii104))] [(.int (sg ii104))])
            by_cases hc73 : (sg ii104) = (0 : Int32)
            · skip
              refine Rch.go (fun _ q => XS.ifNo X105.here hx rfl (hb hby d6_73) rfl ((if0 _ _).trans (teq hc73).2) q) ?_
              show Rch p ev below _ T105 (mkF m 76 #[.val (.ref a1), .val (.int p2), .val (.int p3), .val (.int ii104), .val (.int (sg ii104))] [])
              refine Rch.go (fun _ q => XS.iloadN X105.here hx rfl (hb hby d6_76) rfl  q) ?_
              show Rch p ev below _ T105 (mkF m 77 #[.val (.ref a1), .val (.int p2), .val (.int p3), .val (.int ii104), .val (.int (sg ii104))] [(.int ii104)])
              refine Rch.retI X105 hx hlk Bd.returns (hb hby d6_77) (by decide) (by decide) ?_
              unfold Qrm6
              exact ⟨by rw [← hsg]; simp only [own_wf, ← g_ii102, ← g_ii104, hc4, hc19, hc31, hc46, hc58, hc73, if_true, if_false], N105, e105⟩
            · skip
              refine Rch.go (fun _ q => XS.ifYes X105.here hx rfl (pc0 := 73) (pc' := 78) rfl (hb hby d6_73) rfl ((if0 _ _).trans (feq hc73).2) (by decide) (by decide) q) ?_
              show Rch p ev below _ T105 (mkF m 78 #[.val (.ref a1), .val (.int p2), .val (.int p3), .val (.int ii104), .val (.int (sg ii104))] [])
              refine Rch.go (fun _ q => XS.iloadN X105.here hx rfl (hb hby d6_78) rfl  q) ?_
              show Rch p ev below _ T105 (mkF m 79 #[.val (.ref a1), .val (.int p2), .val (.int p3), .val (.int ii104), .val (.int (sg ii104))] [(.int ii104)])
              refine Rch.go (fun _ q => XS.iload X105.here hx rfl (hb hby d6_79) rfl  q) ?_
              show Rch p ev below _ T105 (mkF m 81 #[.val (.ref a1), .val (.int p2), .val (.int p3), .val (.int ii104), .val (.int (sg ii104))] [(.int (sg ii104)), (.int ii104)])
              refine Rch.go (fun _ q => XS.iadd X105.here hx rfl (hb hby d6_81) rfl q) ?_
              show Rch p ev below _ T105 (mkF m 82 #[.val (.ref a1), .val (.int p2), .val (.int p3), .val (.int ii104), .val (.int (sg ii104))] [(.int (ii104 + (sg ii104)))])
              refine Rch.go (fun _ q => XS.istoreN X105.here hx rfl (hb hby d6_82) rfl (l' := #[.val (.ref a1), .val (.int p2), .val (.int p3), .val (.int (ii104 + (sg ii104))), .val (.int (sg ii104))]) rfl q) ?_
              show Rch p ev below _ T105 (mkF m 83 #[.val (.ref a1), .val (.int p2), .val (.int p3), .val (.int (ii104 + (sg ii104))), .val (.int (sg ii104))] [])
              obtain ⟨ii106, g_ii106⟩ : ∃ q, q = (ii104 + (sg ii104)) := ⟨_, rfl⟩
              rw [← g_ii106]
              have hb106 := (hbd ii104 hb104.1 (Int32.lt_iff_toInt_lt.mp hc58)).resolve_left hc73
              rw [← g_ii106] at hb106
              show Rch p ev below _ T105 (mkF m 83 #[.val (.ref a1), .val (.int p2), .val (.int p3), .val (.int ii106), .val (.int (sg ii104))] [])
              refine Rch.go (fun _ q => XS.iloadN X105.here hx rfl (hb hby d6_83) rfl  q) ?_
              show Rch p ev below _ T105 (mkF m 84 #[.val (.ref a1), .val (.int p2), .val (.int p3), .val (.int ii106), .val (.int (sg ii104))] [(.int ii106)])
              refine Rch.go (fun _ q => XS.iloadN X105.here hx rfl (hb hby d6_84) rfl  q) ?_
              show Rch p ev below _ T105 (mkF m 85 #[.val (.ref a1), .val (.int p2), .val (.int p3), .val (.int ii106), .val (.int (sg ii104))] [(.int p3), (.int ii106)])
              by_cases hc85 : ii106 < p3
              · skip
                refine Rch.go (fun _ q => XS.icmpYes X105.here hx rfl (pc0 := 85) (pc' := 90) rfl (hb hby d6_85) rfl (tlt hc85).1 (by decide) (by decide) q) ?_
                show Rch p ev below _ T105 (mkF m 90 #[.val (.ref a1), .val (.int p2), .val (.int p3), .val (.int ii106), .val (.int (sg ii104))] [])
                refine Rch.go (fun _ q => XS.aloadN X105.here hx rfl (hb hby d6_90) rfl rfl q) ?_
                show Rch p ev below _ T105 (mkF m 91 #[.val (.ref a1), .val (.int p2), .val (.int p3), .val (.int ii106), .val (.int (sg ii104))] [(.ref a1)])
                refine Rch.go (fun _ q => XS.iloadN X105.here hx rfl (hb hby d6_91) rfl  q) ?_
                show Rch p ev below _ T105 (mkF m 92 #[.val (.ref a1), .val (.int p2), .val (.int p3), .val (.int ii106), .val (.int (sg ii104))] [(.int ii106), (.ref a1)])
                refine Rch.go (fun _ q => XS.iloadN X105.here hx rfl (hb hby d6_92) rfl  q) ?_
                show Rch p ev below _ T105 (mkF m 93 #[.val (.ref a1), .val (.int p2), .val (.int p3), .val (.int ii106), .val (.int (sg ii104))] [(.int p3), (.int ii106), (.ref a1)])
                obtain ⟨_, _, ⟨T107, L107, k107, n107⟩, -, X107, ⟨Lc107, hQ107, l107, y107, z107⟩, st107⟩ := Jvm.LawKit.callS X105 hx (y := (⟨"com/example/slicewright/slicewright/runtime/Utf8WellFormedUpToPinLaw", "seq", "([BII)I"⟩ : MethodName)) hown (mvT hZ (hw _ (List.mem_of_getElem? (i := 16) rfl))) (mvT hZ (hw _ (List.mem_of_getElem? (i := 17) rfl))) (mvT hZ (hw _ (List.mem_of_getElem? (i := 14) rfl))) (mvT hZ (hw _ (List.mem_of_getElem? (i := 18) rfl))) (by decide) (backOf (W := 0) (rm5 l Z a0 hw [] a1 ii106 p3 k1 bs h0 n0 Z0 V1 hb106.1 (Int32.lt_iff_toInt_lt.mp hc85) ht6) hZ (hw _ (List.mem_of_getElem? (i := 18) rfl)) (hw _ (List.mem_of_getElem? (i := 14) rfl)) (by decide) (by decide)) (g := (mkF m 93 #[.val (.ref a1), .val (.int p2), .val (.int p3), .val (.int ii106), .val (.int (sg ii104))] [(.int p3), (.int ii106), (.ref a1)])) rfl (by rw [hml]; rfl) (argsL := [(.ref a1), (.int ii106), (.int p3)]) (rest := []) (lenOf own_pd3 rfl) rfl (by show 2 * 0 + _ ≤ _; exact Nat.le_of_eq rfl) (hb hby d6_93) (fun _ _ => ⟨rfl, e105, (by decide : 0 + 0 ≤ _), (by decide : 0 + 0 ≤ _)⟩)
                dsimp only [Pt.U, Pt.locs, Pt.cells, Pt.slots] at X107 l107 y107 z107 st107 hQ107
                subst l107 y107 z107
                obtain ⟨rfl, Nc, ec⟩ := hQ107
                refine Rch.go st107 ?_
                show Rch p ev below _ T107 (mkF m 96 #[.val (.ref a1), .val (.int p2), .val (.int p3), .val (.int ii106), .val (.int (sg ii104))] [(.int ((fun q => own_sq (own_c bs q 0) (own_c bs q 1) (own_c bs q 2) (own_c bs q 3) (p3 - q)) ii106))])
                have N107 := Fr.app N105 Nc
                have e107 := ec
                rw [← hsg]
                show Rch p ev below _ T107 (mkF m 96 #[.val (.ref a1), .val (.int p2), .val (.int p3), .val (.int ii106), .val (.int (sg ii104))] [(.int (sg ii106))])
                refine Rch.go (fun _ q => XS.istore X107.here hx rfl (hb hby d6_96) rfl (l' := #[.val (.ref a1), .val (.int p2), .val (.int p3), .val (.int ii106), .val (.int (sg ii106))]) rfl q) ?_
                show Rch p ev below _ T107 (mkF m 98 #[.val (.ref a1), .val (.int p2), .val (.int p3), .val (.int ii106), .val (.int (sg ii106))] [])
                refine Rch.go (fun _ q => XS.iload X107.here hx rfl (hb hby d6_98) rfl  q) ?_
                show Rch p ev below _ T107 (mkF m 100 #[.val (.ref a1), .val (.int p2), .val (.int p3), .val (.int ii106), .val (.int (sg ii106))] [(.int (sg ii106))])
                by_cases hc100 : (sg ii106) = (0 : Int32)
                · skip
                  refine Rch.go (fun _ q => XS.ifNo X107.here hx rfl (hb hby d6_100) rfl ((if0 _ _).trans (teq hc100).2) q) ?_
                  show Rch p ev below _ T107 (mkF m 103 #[.val (.ref a1), .val (.int p2), .val (.int p3), .val (.int ii106), .val (.int (sg ii106))] [])
                  refine Rch.go (fun _ q => XS.iloadN X107.here hx rfl (hb hby d6_103) rfl  q) ?_
                  show Rch p ev below _ T107 (mkF m 104 #[.val (.ref a1), .val (.int p2), .val (.int p3), .val (.int ii106), .val (.int (sg ii106))] [(.int ii106)])
                  refine Rch.retI X107 hx hlk Bd.returns (hb hby d6_104) (by decide) (by decide) ?_
                  unfold Qrm6
                  exact ⟨by rw [← hsg]; simp only [own_wf, ← g_ii102, ← g_ii104, ← g_ii106, hc4, hc19, hc31, hc46, hc58, hc73, hc85, hc100, if_true, if_false], N107, e107⟩
                · skip
                  refine Rch.go (fun _ q => XS.ifYes X107.here hx rfl (pc0 := 100) (pc' := 105) rfl (hb hby d6_100) rfl ((if0 _ _).trans (feq hc100).2) (by decide) (by decide) q) ?_
                  show Rch p ev below _ T107 (mkF m 105 #[.val (.ref a1), .val (.int p2), .val (.int p3), .val (.int ii106), .val (.int (sg ii106))] [])
                  refine Rch.go (fun _ q => XS.iloadN X107.here hx rfl (hb hby d6_105) rfl  q) ?_
                  show Rch p ev below _ T107 (mkF m 106 #[.val (.ref a1), .val (.int p2), .val (.int p3), .val (.int ii106), .val (.int (sg ii106))] [(.int ii106)])
                  refine Rch.go (fun _ q => XS.iload X107.here hx rfl (hb hby d6_106) rfl  q) ?_
                  show Rch p ev below _ T107 (mkF m 108 #[.val (.ref a1), .val (.int p2), .val (.int p3), .val (.int ii106), .val (.int (sg ii106))] [(.int (sg ii106)), (.int ii106)])
                  refine Rch.go (fun _ q => XS.iadd X107.here hx rfl (hb hby d6_108) rfl q) ?_
                  show Rch p ev below _ T107 (mkF m 109 #[.val (.ref a1), .val (.int p2), .val (.int p3), .val (.int ii106), .val (.int (sg ii106))] [(.int (ii106 + (sg ii106)))])
                  refine Rch.go (fun _ q => XS.istoreN X107.here hx rfl (hb hby d6_109) rfl (l' := #[.val (.ref a1), .val (.int p2), .val (.int p3), .val (.int (ii106 + (sg ii106))), .val (.int (sg ii106))]) rfl q) ?_
                  show Rch p ev below _ T107 (mkF m 110 #[.val (.ref a1), .val (.int p2), .val (.int p3), .val (.int (ii106 + (sg ii106))), .val (.int (sg ii106))] [])
                  obtain ⟨ii108, g_ii108⟩ : ∃ q, q = (ii106 + (sg ii106)) := ⟨_, rfl⟩
                  rw [← g_ii108]
                  have hb108 := (hbd ii106 hb106.1 (Int32.lt_iff_toInt_lt.mp hc85)).resolve_left hc100
                  rw [← g_ii108] at hb108
                  show Rch p ev below _ T107 (mkF m 110 #[.val (.ref a1), .val (.int p2), .val (.int p3), .val (.int ii108), .val (.int (sg ii106))] [])
                  refine Rch.go (fun _ q => XS.iloadN X107.here hx rfl (hb hby d6_110) rfl  q) ?_
                  show Rch p ev below _ T107 (mkF m 111 #[.val (.ref a1), .val (.int p2), .val (.int p3), .val (.int ii108), .val (.int (sg ii106))] [(.int ii108)])
                  refine Rch.go (fun _ q => XS.iloadN X107.here hx rfl (hb hby d6_111) rfl  q) ?_
                  show Rch p ev below _ T107 (mkF m 112 #[.val (.ref a1), .val (.int p2), .val (.int p3), .val (.int ii108), .val (.int (sg ii106))] [(.int p3), (.int ii108)])
                  by_cases hc112 : ii108 < p3
                  · skip
                    refine Rch.go (fun _ q => XS.icmpYes X107.here hx rfl (pc0 := 112) (pc' := 117) rfl (hb hby d6_112) rfl (tlt hc112).1 (by decide) (by decide) q) ?_
                    show Rch p ev below _ T107 (mkF m 117 #[.val (.ref a1), .val (.int p2), .val (.int p3), .val (.int ii108), .val (.int (sg ii106))] [])
                    refine Rch.go (fun _ q => XS.aloadN X107.here hx rfl (hb hby d6_117) rfl rfl q) ?_
                    show Rch p ev below _ T107 (mkF m 118 #[.val (.ref a1), .val (.int p2), .val (.int p3), .val (.int ii108), .val (.int (sg ii106))] [(.ref a1)])
                    refine Rch.go (fun _ q => XS.iloadN X107.here hx rfl (hb hby d6_118) rfl  q) ?_
                    show Rch p ev below _ T107 (mkF m 119 #[.val (.ref a1), .val (.int p2), .val (.int p3), .val (.int ii108), .val (.int (sg ii106))] [(.int ii108), (.ref a1)])
                    refine Rch.go (fun _ q => XS.iloadN X107.here hx rfl (hb hby d6_119) rfl  q) ?_
                    show Rch p ev below _ T107 (mkF m 120 #[.val (.ref a1), .val (.int p2), .val (.int p3), .val (.int ii108), .val (.int (sg ii106))] [(.int p3), (.int ii108), (.ref a1)])
                    obtain ⟨_, _, ⟨T109, L109, k109, n109⟩, -, X109, ⟨Lc109, hQ109, l109, y109, z109⟩, st109⟩ := Jvm.LawKit.callS X107 hx (y := (⟨"com/example/slicewright/slicewright/runtime/Utf8WellFormedUpToPinLaw", "seq", "([BII)I"⟩ : MethodName)) hown (mvT hZ (hw _ (List.mem_of_getElem? (i := 16) rfl))) (mvT hZ (hw _ (List.mem_of_getElem? (i := 17) rfl))) (mvT hZ (hw _ (List.mem_of_getElem? (i := 14) rfl))) (mvT hZ (hw _ (List.mem_of_getElem? (i := 18) rfl))) (by decide) (backOf (W := 0) (rm5 l Z a0 hw [] a1 ii108 p3 k1 bs h0 n0 Z0 V1 hb108.1 (Int32.lt_iff_toInt_lt.mp hc112) ht6) hZ (hw _ (List.mem_of_getElem? (i := 18) rfl)) (hw _ (List.mem_of_getElem? (i := 14) rfl)) (by decide) (by decide)) (g := (mkF m 120 #[.val (.ref a1), .val (.int p2), .val (.int p3), .val (.int ii108), .val (.int (sg ii106))] [(.int p3), (.int ii108), (.ref a1)])) rfl (by rw [hml]; rfl) (argsL := [(.ref a1), (.int ii108), (.int p3)]) (rest := []) (lenOf own_pd3 rfl) rfl (by show 2 * 0 + _ ≤ _; exact Nat.le_of_eq rfl) (hb hby d6_120) (fun _ _ => ⟨rfl, e107, (by decide : 0 + 0 ≤ _), (by decide : 0 + 0 ≤ _)⟩)
                    dsimp only [Pt.U, Pt.locs, Pt.cells, Pt.slots] at X109 l109 y109 z109 st109 hQ109
                    subst l109 y109 z109
                    obtain ⟨rfl, Nc, ec⟩ := hQ109
                    refine Rch.go st109 ?_
                    show Rch p ev below _ T109 (mkF m 123 #[.val (.ref a1), .val (.int p2), .val (.int p3), .val (.int ii108), .val (.int (sg ii106))] [(.int ((fun q => own_sq (own_c bs q 0) (own_c bs q 1) (own_c bs q 2) (own_c bs q 3) (p3 - q)) ii108))])
                    have N109 := Fr.app N107 Nc
                    have e109 := ec
                    rw [← hsg]
                    show Rch p ev below _ T109 (mkF m 123 #[.val (.ref a1), .val (.int p2), .val (.int p3), .val (.int ii108), .val (.int (sg ii106))] [(.int (sg ii108))])
                    refine Rch.go (fun _ q => XS.istore X109.here hx rfl (hb hby d6_123) rfl (l' := #[.val (.ref a1), .val (.int p2), .val (.int p3), .val (.int ii108), .val (.int (sg ii108))]) rfl q) ?_
                    show Rch p ev below _ T109 (mkF m 125 #[.val (.ref a1), .val (.int p2), .val (.int p3), .val (.int ii108), .val (.int (sg ii108))] [])
                    refine Rch.go (fun _ q => XS.iload X109.here hx rfl (hb hby d6_125) rfl  q) ?_
                    show Rch p ev below _ T109 (mkF m 127 #[.val (.ref a1), .val (.int p2), .val (.int p3), .val (.int ii108), .val (.int (sg ii108))] [(.int (sg ii108))])
                    by_cases hc127 : (sg ii108) = (0 : Int32)
                    · skip
                      refine Rch.go (fun _ q => XS.ifNo X109.here hx rfl (hb hby d6_127) rfl ((if0 _ _).trans (teq hc127).2) q) ?_
                      show Rch p ev below _ T109 (mkF m 130 #[.val (.ref a1), .val (.int p2), .val (.int p3), .val (.int ii108), .val (.int (sg ii108))] [])
                      refine Rch.go (fun _ q => XS.iloadN X109.here hx rfl (hb hby d6_130) rfl  q) ?_
                      show Rch p ev below _ T109 (mkF m 131 #[.val (.ref a1), .val (.int p2), .val (.int p3), .val (.int ii108), .val (.int (sg ii108))] [(.int ii108)])
                      refine Rch.retI X109 hx hlk Bd.returns (hb hby d6_131) (by decide) (by decide) ?_
                      unfold Qrm6
                      exact ⟨by rw [← hsg]; simp only [own_wf, ← g_ii102, ← g_ii104, ← g_ii106, ← g_ii108, hc4, hc19, hc31, hc46, hc58, hc73, hc85, hc100, hc112, hc127, if_true, if_false], N109, e109⟩
                    · skip
                      refine Rch.go (fun _ q => XS.ifYes X109.here hx rfl (pc0 := 127) (pc' := 132) rfl (hb hby d6_127) rfl ((if0 _ _).trans (feq hc127).2) (by decide) (by decide) q) ?_
                      show Rch p ev below _ T109 (mkF m 132 #[.val (.ref a1), .val (.int p2), .val (.int p3), .val (.int ii108), .val (.int (sg ii108))] [])
                      refine Rch.go (fun _ q => XS.iloadN X109.here hx rfl (hb hby d6_132) rfl  q) ?_
                      show Rch p ev below _ T109 (mkF m 133 #[.val (.ref a1), .val (.int p2), .val (.int p3), .val (.int ii108), .val (.int (sg ii108))] [(.int ii108)])
                      refine Rch.go (fun _ q => XS.iload X109.here hx rfl (hb hby d6_133) rfl  q) ?_
                      show Rch p ev below _ T109 (mkF m 135 #[.val (.ref a1), .val (.int p2), .val (.int p3), .val (.int ii108), .val (.int (sg ii108))] [(.int (sg ii108)), (.int ii108)])
                      refine Rch.go (fun _ q => XS.iadd X109.here hx rfl (hb hby d6_135) rfl q) ?_
                      show Rch p ev below _ T109 (mkF m 136 #[.val (.ref a1), .val (.int p2), .val (.int p3), .val (.int ii108), .val (.int (sg ii108))] [(.int (ii108 + (sg ii108)))])
                      refine Rch.go (fun _ q => XS.istoreN X109.here hx rfl (hb hby d6_136) rfl (l' := #[.val (.ref a1), .val (.int p2), .val (.int p3), .val (.int (ii108 + (sg ii108))), .val (.int (sg ii108))]) rfl q) ?_
                      show Rch p ev below _ T109 (mkF m 137 #[.val (.ref a1), .val (.int p2), .val (.int p3), .val (.int (ii108 + (sg ii108))), .val (.int (sg ii108))] [])
                      obtain ⟨ii110, g_ii110⟩ : ∃ q, q = (ii108 + (sg ii108)) := ⟨_, rfl⟩
                      rw [← g_ii110]
                      have hb110 := (hbd ii108 hb108.1 (Int32.lt_iff_toInt_lt.mp hc112)).resolve_left hc127
                      rw [← g_ii110] at hb110
                      show Rch p ev below _ T109 (mkF m 137 #[.val (.ref a1), .val (.int p2), .val (.int p3), .val (.int ii110), .val (.int (sg ii108))] [])
                      refine Rch.go (fun _ q => XS.iloadN X109.here hx rfl (hb hby d6_137) rfl  q) ?_
                      show Rch p ev below _ T109 (mkF m 138 #[.val (.ref a1), .val (.int p2), .val (.int p3), .val (.int ii110), .val (.int (sg ii108))] [(.int ii110)])
                      refine Rch.go (fun _ q => XS.iloadN X109.here hx rfl (hb hby d6_138) rfl  q) ?_
                      show Rch p ev below _ T109 (mkF m 139 #[.val (.ref a1), .val (.int p2), .val (.int p3), .val (.int ii110), .val (.int (sg ii108))] [(.int p3), (.int ii110)])
                      by_cases hc139 : ii110 < p3
                      · skip
                        refine Rch.go (fun _ q => XS.icmpYes X109.here hx rfl (pc0 := 139) (pc' := 144) rfl (hb hby d6_139) rfl (tlt hc139).1 (by decide) (by decide) q) ?_
                        show Rch p ev below _ T109 (mkF m 144 #[.val (.ref a1), .val (.int p2), .val (.int p3), .val (.int ii110), .val (.int (sg ii108))] [])
                        refine Rch.go (fun _ q => XS.aloadN X109.here hx rfl (hb hby d6_144) rfl rfl q) ?_
                        show Rch p ev below _ T109 (mkF m 145 #[.val (.ref a1), .val (.int p2), .val (.int p3), .val (.int ii110), .val (.int (sg ii108))] [(.ref a1)])
                        refine Rch.go (fun _ q => XS.iloadN X109.here hx rfl (hb hby d6_145) rfl  q) ?_
                        show Rch p ev below _ T109 (mkF m 146 #[.val (.ref a1), .val (.int p2), .val (.int p3), .val (.int ii110), .val (.int (sg ii108))] [(.int ii110), (.ref a1)])
                        refine Rch.go (fun _ q => XS.iloadN X109.here hx rfl (hb hby d6_146) rfl  q) ?_
                        show Rch p ev below _ T109 (mkF m 147 #[.val (.ref a1), .val (.int p2), .val (.int p3), .val (.int ii110), .val (.int (sg ii108))] [(.int p3), (.int ii110), (.ref a1)])
                        obtain ⟨_, _, ⟨T111, L111, k111, n111⟩, -, X111, ⟨Lc111, hQ111, l111, y111, z111⟩, st111⟩ := Jvm.LawKit.callS X109 hx (y := (⟨"com/example/slicewright/slicewright/runtime/Utf8WellFormedUpToPinLaw", "seq", "([BII)I"⟩ : MethodName)) hown (mvT hZ (hw _ (List.mem_of_getElem? (i := 16) rfl))) (mvT hZ (hw _ (List.mem_of_getElem? (i := 17) rfl))) (mvT hZ (hw _ (List.mem_of_getElem? (i := 14) rfl))) (mvT hZ (hw _ (List.mem_of_getElem? (i := 18) rfl))) (by decide) (backOf (W := 0) (rm5 l Z a0 hw [] a1 ii110 p3 k1 bs h0 n0 Z0 V1 hb110.1 (Int32.lt_iff_toInt_lt.mp hc139) ht6) hZ (hw _ (List.mem_of_getElem? (i := 18) rfl)) (hw _ (List.mem_of_getElem? (i := 14) rfl)) (by decide) (by decide)) (g := (mkF m 147 #[.val (.ref a1), .val (.int p2), .val (.int p3), .val (.int ii110), .val (.int (sg ii108))] [(.int p3), (.int ii110), (.ref a1)])) rfl (by rw [hml]; rfl) (argsL := [(.ref a1), (.int ii110), (.int p3)]) (rest := []) (lenOf own_pd3 rfl) rfl (by show 2 * 0 + _ ≤ _; exact Nat.le_of_eq rfl) (hb hby d6_147) (fun _ _ => ⟨rfl, e109, (by decide : 0 + 0 ≤ _), (by decide : 0 + 0 ≤ _)⟩)
                        dsimp only [Pt.U, Pt.locs, Pt.cells, Pt.slots] at X111 l111 y111 z111 st111 hQ111
                        subst l111 y111 z111
                        obtain ⟨rfl, Nc, ec⟩ := hQ111
                        refine Rch.go st111 ?_
                        show Rch p ev below _ T111 (mkF m 150 #[.val (.ref a1), .val (.int p2), .val (.int p3), .val (.int ii110), .val (.int (sg ii108))] [(.int ((fun q => own_sq (own_c bs q 0) (own_c bs q 1) (own_c bs q 2) (own_c bs q 3) (p3 - q)) ii110))])
                        have N111 := Fr.app N109 Nc
                        have e111 := ec
                        rw [← hsg]
                        show Rch p ev below _ T111 (mkF m 150 #[.val (.ref a1), .val (.int p2), .val (.int p3), .val (.int ii110), .val (.int (sg ii108))] [(.int (sg ii110))])
                        refine Rch.go (fun _ q => XS.istore X111.here hx rfl (hb hby d6_150) rfl (l' := #[.val (.ref a1), .val (.int p2), .val (.int p3), .val (.int ii110), .val (.int (sg ii110))]) rfl q) ?_
                        show Rch p ev below _ T111 (mkF m 152 #[.val (.ref a1), .val (.int p2), .val (.int p3), .val (.int ii110), .val (.int (sg ii110))] [])
                        refine Rch.go (fun _ q => XS.iload X111.here hx rfl (hb hby d6_152) rfl  q) ?_
                        show Rch p ev below _ T111 (mkF m 154 #[.val (.ref a1), .val (.int p2), .val (.int p3), .val (.int ii110), .val (.int (sg ii110))] [(.int (sg ii110))])
                        by_cases hc154 : (sg ii110) = (0 : Int32)
                        · skip
                          refine Rch.go (fun _ q => XS.ifNo X111.here hx rfl (hb hby d6_154) rfl ((if0 _ _).trans (teq hc154).2) q) ?_
                          show Rch p ev below _ T111 (mkF m 157 #[.val (.ref a1), .val (.int p2), .val (.int p3), .val (.int ii110), .val (.int (sg ii110))] [])
                          refine Rch.go (fun _ q => XS.iloadN X111.here hx rfl (hb hby d6_157) rfl  q) ?_
                          show Rch p ev below _ T111 (mkF m 158 #[.val (.ref a1), .val (.int p2), .val (.int p3), .val (.int ii110), .val (.int (sg ii110))] [(.int ii110)])
                          refine Rch.retI X111 hx hlk Bd.returns (hb hby d6_158) (by decide) (by decide) ?_
                          unfold Qrm6
                          exact ⟨by rw [← hsg]; simp only [own_wf, ← g_ii102, ← g_ii104, ← g_ii106, ← g_ii108, ← g_ii110, hc4, hc19, hc31, hc46, hc58, hc73, hc85, hc100, hc112, hc127, hc139, hc154, if_true, if_false], N111, e111⟩
                        · skip
                          refine Rch.go (fun _ q => XS.ifYes X111.here hx rfl (pc0 := 154) (pc' := 159) rfl (hb hby d6_154) rfl ((if0 _ _).trans (feq hc154).2) (by decide) (by decide) q) ?_
                          show Rch p ev below _ T111 (mkF m 159 #[.val (.ref a1), .val (.int p2), .val (.int p3), .val (.int ii110), .val (.int (sg ii110))] [])
                          refine Rch.go (fun _ q => XS.iloadN X111.here hx rfl (hb hby d6_159) rfl  q) ?_
                          show Rch p ev below _ T111 (mkF m 160 #[.val (.ref a1), .val (.int p2), .val (.int p3), .val (.int ii110), .val (.int (sg ii110))] [(.int ii110)])
                          refine Rch.go (fun _ q => XS.iload X111.here hx rfl (hb hby d6_160) rfl  q) ?_
                          show Rch p ev below _ T111 (mkF m 162 #[.val (.ref a1), .val (.int p2), .val (.int p3), .val (.int ii110), .val (.int (sg ii110))] [(.int (sg ii110)), (.int ii110)])
                          refine Rch.go (fun _ q => XS.iadd X111.here hx rfl (hb hby d6_162) rfl q) ?_
                          show Rch p ev below _ T111 (mkF m 163 #[.val (.ref a1), .val (.int p2), .val (.int p3), .val (.int ii110), .val (.int (sg ii110))] [(.int (ii110 + (sg ii110)))])
                          refine Rch.go (fun _ q => XS.istoreN X111.here hx rfl (hb hby d6_163) rfl (l' := #[.val (.ref a1), .val (.int p2), .val (.int p3), .val (.int (ii110 + (sg ii110))), .val (.int (sg ii110))]) rfl q) ?_
                          show Rch p ev below _ T111 (mkF m 164 #[.val (.ref a1), .val (.int p2), .val (.int p3), .val (.int (ii110 + (sg ii110))), .val (.int (sg ii110))] [])
                          obtain ⟨ii112, g_ii112⟩ : ∃ q, q = (ii110 + (sg ii110)) := ⟨_, rfl⟩
                          rw [← g_ii112]
                          have hb112 := (hbd ii110 hb110.1 (Int32.lt_iff_toInt_lt.mp hc139)).resolve_left hc154
                          rw [← g_ii112] at hb112
                          show Rch p ev below _ T111 (mkF m 164 #[.val (.ref a1), .val (.int p2), .val (.int p3), .val (.int ii112), .val (.int (sg ii110))] [])
                          refine Rch.go (fun _ q => XS.iloadN X111.here hx rfl (hb hby d6_164) rfl  q) ?_
                          show Rch p ev below _ T111 (mkF m 165 #[.val (.ref a1), .val (.int p2), .val (.int p3), .val (.int ii112), .val (.int (sg ii110))] [(.int p3)])
                          refine Rch.retI X111 hx hlk Bd.returns (hb hby d6_165) (by decide) (by decide) ?_
                          unfold Qrm6
                          exact ⟨by rw [← hsg]; simp only [own_wf, ← g_ii102, ← g_ii104, ← g_ii106, ← g_ii108, ← g_ii110, ← g_ii112, hc4, hc19, hc31, hc46, hc58, hc73, hc85, hc100, hc112, hc127, hc139, hc154, if_true, if_false], N111, e111⟩
                      · skip
                        refine Rch.go (fun _ q => XS.icmpNo X109.here hx rfl (hb hby d6_139) rfl (flt hc139).1 q) ?_
                        show Rch p ev below _ T109 (mkF m 142 #[.val (.ref a1), .val (.int p2), .val (.int p3), .val (.int ii110), .val (.int (sg ii108))] [])
                        refine Rch.go (fun _ q => XS.iloadN X109.here hx rfl (hb hby d6_142) rfl  q) ?_
                        show Rch p ev below _ T109 (mkF m 143 #[.val (.ref a1), .val (.int p2), .val (.int p3), .val (.int ii110), .val (.int (sg ii108))] [(.int p3)])
                        refine Rch.retI X109 hx hlk Bd.returns (hb hby d6_143) (by decide) (by decide) ?_
                        unfold Qrm6
                        exact ⟨by rw [← hsg]; simp only [own_wf, ← g_ii102, ← g_ii104, ← g_ii106, ← g_ii108, ← g_ii110, hc4, hc19, hc31, hc46, hc58, hc73, hc85, hc100, hc112, hc127, hc139, if_true, if_false], N109, e109⟩
                  · skip
                    refine Rch.go (fun _ q => XS.icmpNo X107.here hx rfl (hb hby d6_112) rfl (flt hc112).1 q) ?_
                    show Rch p ev below _ T107 (mkF m 115 #[.val (.ref a1), .val (.int p2), .val (.int p3), .val (.int ii108), .val (.int (sg ii106))] [])
                    refine Rch.go (fun _ q => XS.iloadN X107.here hx rfl (hb hby d6_115) rfl  q) ?_
                    show Rch p ev below _ T107 (mkF m 116 #[.val (.ref a1), .val (.int p2), .val (.int p3), .val (.int ii108), .val (.int (sg ii106))] [(.int p3)])
                    refine Rch.retI X107 hx hlk Bd.returns (hb hby d6_116) (by decide) (by decide) ?_
                    unfold Qrm6
                    exact ⟨by rw [← hsg]; simp only [own_wf, ← g_ii102, ← g_ii104, ← g_ii106, ← g_ii108, hc4, hc19, hc31, hc46, hc58, hc73, hc85, hc100, hc112, if_true, if_false], N107, e107⟩
              · skip
                refine Rch.go (fun _ q => XS.icmpNo X105.here hx rfl (hb hby d6_85) rfl (flt hc85).1 q) ?_
                show Rch p ev below _ T105 (mkF m 88 #[.val (.ref a1), .val (.int p2), .val (.int p3), .val (.int ii106), .val (.int (sg ii104))] [])
                refine Rch.go (fun _ q => XS.iloadN X105.here hx rfl (hb hby d6_88) rfl  q) ?_
                show Rch p ev below _ T105 (mkF m 89 #[.val (.ref a1), .val (.int p2), .val (.int p3), .val (.int ii106), .val (.int (sg ii104))] [(.int p3)])
                refine Rch.retI X105 hx hlk Bd.returns (hb hby d6_89) (by decide) (by decide) ?_
                unfold Qrm6
                exact ⟨by rw [← hsg]; simp only [own_wf, ← g_ii102, ← g_ii104, ← g_ii106, hc4, hc19, hc31, hc46, hc58, hc73, hc85, if_true, if_false], N105, e105⟩
          · skip
            refine Rch.go (fun _ q => XS.icmpNo X103.here hx rfl (hb hby d6_58) rfl (flt hc58).1 q) ?_
            show Rch p ev below _ T103 (mkF m 61 #[.val (.ref a1), .val (.int p2), .val (.int p3), .val (.int ii104), .val (.int (sg ii102))] [])
            refine Rch.go (fun _ q => XS.iloadN X103.here hx rfl (hb hby d6_61) rfl  q) ?_
            show Rch p ev below _ T103 (mkF m 62 #[.val (.ref a1), .val (.int p2), .val (.int p3), .val (.int ii104), .val (.int (sg ii102))] [(.int p3)])
            refine Rch.retI X103 hx hlk Bd.returns (hb hby d6_62) (by decide) (by decide) ?_
            unfold Qrm6
            exact ⟨by rw [← hsg]; simp only [own_wf, ← g_ii102, ← g_ii104, hc4, hc19, hc31, hc46, hc58, if_true, if_false], N103, e103⟩
      · skip
        refine Rch.go (fun _ q => XS.icmpNo X101.here hx rfl (hb hby d6_31) rfl (flt hc31).1 q) ?_
        show Rch p ev below _ T101 (mkF m 34 #[.val (.ref a1), .val (.int p2), .val (.int p3), .val (.int ii102), .val (.int (sg p2))] [])
        refine Rch.go (fun _ q => XS.iloadN X101.here hx rfl (hb hby d6_34) rfl  q) ?_
        show Rch p ev below _ T101 (mkF m 35 #[.val (.ref a1), .val (.int p2), .val (.int p3), .val (.int ii102), .val (.int (sg p2))] [(.int p3)])
        refine Rch.retI X101 hx hlk Bd.returns (hb hby d6_35) (by decide) (by decide) ?_
        unfold Qrm6
        exact ⟨by rw [← hsg]; simp only [own_wf, ← g_ii102, hc4, hc19, hc31, if_true, if_false], N101, e101⟩
  · skip
    refine Rch.go (fun _ q => XS.icmpNo X0.here hx rfl (hb hby d6_4) rfl (flt hc4).1 q) ?_
    show Rch p ev below _ s₁ (mkF m 7 #[.val (.ref a1), .val (.int p2), .val (.int p3), .val (.int p2), .unset] [])
    refine Rch.go (fun _ q => XS.iloadN X0.here hx rfl (hb hby d6_7) rfl  q) ?_
    show Rch p ev below _ s₁ (mkF m 8 #[.val (.ref a1), .val (.int p2), .val (.int p3), .val (.int p2), .unset] [(.int p3)])
    refine Rch.retI X0 hx hlk Bd.returns (hb hby d6_8) (by decide) (by decide) ?_
    unfold Qrm6
    exact ⟨by rw [← hsg]; simp only [own_wf, hc4, if_true, if_false], N0, e0⟩
theorem own_pn6 : plainFor x = true := by first | exact plainFor_of_name (by first | (simp [plainName, overriddenIn]; done) | decide +kernel) | decide +kernel
theorem own_pd4 : parseMethodDescriptor "(JII)Z" = some ⟨[.long, .int, .int], some .boolean⟩ := by decide +kernel
theorem own_ef10 (m : MethodId) (x0 : Int64) (x1 : Int32) (x2 : Int32) : entryFrame m #[(.long x0), (.int x1), (.int x2)] maxLocals = mkF m 0 #[.val (.long x0), .second, .val (.int x1), .val (.int x2), .unset, .unset, .unset, .unset] [] := by first | (simp [entryFrame, mkF, argsToLocals, Value.category, maxLocals]; done) | rfl
def Qrm0 (Z : State) (p1 : Int64) (p2 : Int32) (p3 : Int32)  (h0 : Heap) (n0 : Nat) : Option Value → Heap → List Loc → Prop := fun v h L => v = some (.int 1) ∧ Fr n0 L
set_option maxRecDepth 65536 in
set_option maxHeartbeats 40000000 in
theorem rm0 (l : Launch) (Z : State) (a0 : Array Value) (hw : ∀ d ∈ tables_1, d.before a0 Z = true) (ws : List Jvm.Cond) (p1 : Int64) (p2 : Int32) (p3 : Int32)  (h0 : Heap) (n0 : Nat) (Z0 : n0 ≤ h0.size)  :
    MetFree l x (head1 (Jvm.Cond.code x code maxLocals ret :: ws) room_1) (fun a U => a = #[(.long p1), (.int p2), (.int p3)] ∧ Z.Warmed39 U.vm ∧ U.heap = h0) (fun _ _ _ _ _ => True) (fun _ U o U' => ∃ v L, o = .returned v ∧ (Qrm0 Z p1 p2 p3  h0 n0) v U'.heap L ∧ FrameEnd U o U' L room_1.cells room_1.slots) := by
  refine MetFree.of_bodySF own_pn6 hisR ?_
  intro p ev s m args below meth c s₁ Bd hml0 hP hK
  obtain ⟨rfl, hZ, hh⟩ := hP
  have hx := Bd.exec
  have hby := Bd.bytes
  have hlk := Bd.notSynchronized
  have hml : c.maxLocals = 8 := hml0
  have hown : s.vm.findClass "com/example/slicewright/slicewright/runtime/Utf8WellFormedUpToPinLaw" = some m.cls := findClass_of_methodNamed Bd.named
  have hnm := (name_of_methodNamed Bd.named Bd.method).1
  have X0 : Stand p l ev room_1 s m #[(.long p1), (.int p2), (.int p3)] below meth c s₁ [] 0 0 := Stand.of_body Bd
  have e0 : s₁.heap = h0 := by rw [← hh, Bd.state]; rfl
  have N0 := Fr.nil n0
  refine Rch.entry (G := (EndQ (Qrm0 Z p1 p2 p3  h0 n0) s room_1.cells room_1.slots)) (own_ef10 m p1 p2 p3) ?_
  have hbool : ∀ x : Int32, nar .boolean x = x &&& 1 := fun _ => rfl
  show Rch p ev below _ s₁ (mkF m 0 #[.val (.long p1), .second, .val (.int p2), .val (.int p3), .unset, .unset, .unset, .unset] [])
  refine Rch.go (fun _ q => XS.bipush X0.here hx rfl (hb hby at_0) q) ?_
  show Rch p ev below _ s₁ (mkF m 2 #[.val (.long p1), .second, .val (.int p2), .val (.int p3), .unset, .unset, .unset, .unset] [(.int (6 : Int32))])
  obtain ⟨T101, h101, kk_aa, X101, e101, E101, V101, st101⟩ := naw X0 hx hZ (hw _ (List.mem_of_getElem? (i := 0) rfl)) e0 (g := (mkF m 2 #[.val (.long p1), .second, .val (.int p2), .val (.int p3), .unset, .unset, .unset, .unset] [(.int (6 : Int32))])) rfl (hb hby at_2) rfl (by decide) 6 (cap := 6) (by decide) (by decide) (by decide) (by decide)
  obtain ⟨aa, g101⟩ : ∃ q, q = Array.size h0 := ⟨_, rfl⟩
  rw [← g101] at V101 st101
  have V_aa_101 : Arv Z h101 aa kk_aa .byte 6 [(.int 0), (.int 0), (.int 0), (.int 0), (.int 0), (.int 0)] (.int 0) := V101
  have le_aa : n0 ≤ aa := by rw [g101]; exact Z0
  have Z101 : n0 ≤ h101.size := Nat.le_trans Z0 E101.1
  refine Rch.go st101 ?_
  show Rch p ev below _ T101 (mkF m 4 #[.val (.long p1), .second, .val (.int p2), .val (.int p3), .unset, .unset, .unset, .unset] [(.ref aa)])
  refine Rch.go (fun _ q => XS.astore X101.here hx rfl (hb hby at_4) rfl rfl (l' := #[.val (.long p1), .second, .val (.int p2), .val (.int p3), .val (.ref aa), .unset, .unset, .unset]) rfl q) ?_
  show Rch p ev below _ T101 (mkF m 6 #[.val (.long p1), .second, .val (.int p2), .val (.int p3), .val (.ref aa), .unset, .unset, .unset] [])
  refine Rch.go (fun _ q => XS.aload X101.here hx rfl (hb hby at_6) rfl rfl q) ?_
  show Rch p ev below _ T101 (mkF m 8 #[.val (.long p1), .second, .val (.int p2), .val (.int p3), .val (.ref aa), .unset, .unset, .unset] [(.ref aa)])
  refine Rch.go (fun _ q => XS.iconst X101.here hx rfl (hb hby at_8) q) ?_
  show Rch p ev below _ T101 (mkF m 9 #[.val (.long p1), .second, .val (.int p2), .val (.int p3), .val (.ref aa), .unset, .unset, .unset] [(.int (0 : Int32)), (.ref aa)])
  refine Rch.go (fun _ q => XS.lloadN X101.here hx rfl (hb hby at_9) rfl  q) ?_
  show Rch p ev below _ T101 (mkF m 10 #[.val (.long p1), .second, .val (.int p2), .val (.int p3), .val (.ref aa), .unset, .unset, .unset] [(.long p1), (.int (0 : Int32)), (.ref aa)])
  refine Rch.go (fun _ q => XS.l2i X101.here hx rfl (hb hby at_10) rfl q) ?_
  show Rch p ev below _ T101 (mkF m 11 #[.val (.long p1), .second, .val (.int p2), .val (.int p3), .val (.ref aa), .unset, .unset, .unset] [(.int (p1.toInt32)), (.int (0 : Int32)), (.ref aa)])
  refine Rch.go (fun _ q => XS.i2b X101.here hx rfl (hb hby at_11) rfl q) ?_
  show Rch p ev below _ T101 (mkF m 12 #[.val (.long p1), .second, .val (.int p2), .val (.int p3), .val (.ref aa), .unset, .unset, .unset] [(.int ((p1.toInt32).toInt8.toInt32)), (.int (0 : Int32)), (.ref aa)])
  obtain ⟨T102, h102, X102, e102, W102, V102, st102⟩ := sdB X101 hx hZ e101 V_aa_101 (j := (0 : Int32)) (by decide) 0 (by decide) (Nat.le_of_ble_eq_true rfl) (g := (mkF m 12 #[.val (.long p1), .second, .val (.int p2), .val (.int p3), .val (.ref aa), .unset, .unset, .unset] [(.int ((p1.toInt32).toInt8.toInt32)), (.int (0 : Int32)), (.ref aa)])) rfl rfl (hb hby at_12)
  have V_aa_102 : Arv Z h102 aa kk_aa .byte 6 [(.int (nar .byte ((p1.toInt32).toInt8.toInt32))), (.int 0), (.int 0), (.int 0), (.int 0), (.int 0)] (.int 0) := V102
  have N102 := Fr.snoc X102 N0 le_aa
  have Z102 : n0 ≤ h102.size := by rw [W102.size]; exact Z101
  refine Rch.go st102 ?_
  show Rch p ev below _ T102 (mkF m 13 #[.val (.long p1), .second, .val (.int p2), .val (.int p3), .val (.ref aa), .unset, .unset, .unset] [])
  refine Rch.go (fun _ q => XS.aload X102.here hx rfl (hb hby at_13) rfl rfl q) ?_
  show Rch p ev below _ T102 (mkF m 15 #[.val (.long p1), .second, .val (.int p2), .val (.int p3), .val (.ref aa), .unset, .unset, .unset] [(.ref aa)])
  refine Rch.go (fun _ q => XS.iconst X102.here hx rfl (hb hby at_15) q) ?_
  show Rch p ev below _ T102 (mkF m 16 #[.val (.long p1), .second, .val (.int p2), .val (.int p3), .val (.ref aa), .unset, .unset, .unset] [(.int (1 : Int32)), (.ref aa)])
  refine Rch.go (fun _ q => XS.lloadN X102.here hx rfl (hb hby at_16) rfl  q) ?_
  show Rch p ev below _ T102 (mkF m 17 #[.val (.long p1), .second, .val (.int p2), .val (.int p3), .val (.ref aa), .unset, .unset, .unset] [(.long p1), (.int (1 : Int32)), (.ref aa)])
  refine Rch.go (fun _ q => XS.bipush X102.here hx rfl (hb hby at_17) q) ?_
  show Rch p ev below _ T102 (mkF m 19 #[.val (.long p1), .second, .val (.int p2), .val (.int p3), .val (.ref aa), .unset, .unset, .unset] [(.int (8 : Int32)), (.long p1), (.int (1 : Int32)), (.ref aa)])
  refine Rch.go (fun _ q => XS.lushr X102.here hx rfl (hb hby at_19) rfl q) ?_
  show Rch p ev below _ T102 (mkF m 20 #[.val (.long p1), .second, .val (.int p2), .val (.int p3), .val (.ref aa), .unset, .unset, .unset] [(.long ((p1.toUInt64 >>> ((8 : Int32) &&& 0x3f).toInt64.toUInt64).toInt64)), (.int (1 : Int32)), (.ref aa)])
  refine Rch.go (fun _ q => XS.l2i X102.here hx rfl (hb hby at_20) rfl q) ?_
  show Rch p ev below _ T102 (mkF m 21 #[.val (.long p1), .second, .val (.int p2), .val (.int p3), .val (.ref aa), .unset, .unset, .unset] [(.int (((p1.toUInt64 >>> ((8 : Int32) &&& 0x3f).toInt64.toUInt64).toInt64).toInt32)), (.int (1 : Int32)), (.ref aa)])
  refine Rch.go (fun _ q => XS.i2b X102.here hx rfl (hb hby at_21) rfl q) ?_
  show Rch p ev below _ T102 (mkF m 22 #[.val (.long p1), .second, .val (.int p2), .val (.int p3), .val (.ref aa), .unset, .unset, .unset] [(.int ((((p1.toUInt64 >>> ((8 : Int32) &&& 0x3f).toInt64.toUInt64).toInt64).toInt32).toInt8.toInt32)), (.int (1 : Int32)), (.ref aa)])
  obtain ⟨T103, h103, X103, e103, W103, V103, st103⟩ := sdB X102 hx hZ e102 V_aa_102 (j := (1 : Int32)) (by decide) 1 (by decide) (Nat.le_of_ble_eq_true rfl) (g := (mkF m 22 #[.val (.long p1), .second, .val (.int p2), .val (.int p3), .val (.ref aa), .unset, .unset, .unset] [(.int ((((p1.toUInt64 >>> ((8 : Int32) &&& 0x3f).toInt64.toUInt64).toInt64).toInt32).toInt8.toInt32)), (.int (1 : Int32)), (.ref aa)])) rfl rfl (hb hby at_22)
  have V_aa_103 : Arv Z h103 aa kk_aa .byte 6 [(.int (nar .byte ((p1.toInt32).toInt8.toInt32))), (.int (nar .byte ((((p1.toUInt64 >>> ((8 : Int32) &&& 0x3f).toInt64.toUInt64).toInt64).toInt32).toInt8.toInt32))), (.int 0), (.int 0), (.int 0), (.int 0)] (.int 0) := V103
  have N103 := Fr.snoc X103 N102 le_aa
  have Z103 : n0 ≤ h103.size := by rw [W103.size]; exact Z102
  refine Rch.go st103 ?_
  show Rch p ev below _ T103 (mkF m 23 #[.val (.long p1), .second, .val (.int p2), .val (.int p3), .val (.ref aa), .unset, .unset, .unset] [])
  refine Rch.go (fun _ q => XS.aload X103.here hx rfl (hb hby at_23) rfl rfl q) ?_
  show Rch p ev below _ T103 (mkF m 25 #[.val (.long p1), .second, .val (.int p2), .val (.int p3), .val (.ref aa), .unset, .unset, .unset] [(.ref aa)])
  refine Rch.go (fun _ q => XS.iconst X103.here hx rfl (hb hby at_25) q) ?_
  show Rch p ev below _ T103 (mkF m 26 #[.val (.long p1), .second, .val (.int p2), .val (.int p3), .val (.ref aa), .unset, .unset, .unset] [(.int (2 : Int32)), (.ref aa)])
  refine Rch.go (fun _ q => XS.lloadN X103.here hx rfl (hb hby at_26) rfl  q) ?_
  show Rch p ev below _ T103 (mkF m 27 #[.val (.long p1), .second, .val (.int p2), .val (.int p3), .val (.ref aa), .unset, .unset, .unset] [(.long p1), (.int (2 : Int32)), (.ref aa)])
  refine Rch.go (fun _ q => XS.bipush X103.here hx rfl (hb hby at_27) q) ?_
  show Rch p ev below _ T103 (mkF m 29 #[.val (.long p1), .second, .val (.int p2), .val (.int p3), .val (.ref aa), .unset, .unset, .unset] [(.int (16 : Int32)), (.long p1), (.int (2 : Int32)), (.ref aa)])
  refine Rch.go (fun _ q => XS.lushr X103.here hx rfl (hb hby at_29) rfl q) ?_
  show Rch p ev below _ T103 (mkF m 30 #[.val (.long p1), .second, .val (.int p2), .val (.int p3), .val (.ref aa), .unset, .unset, .unset] [(.long ((p1.toUInt64 >>> ((16 : Int32) &&& 0x3f).toInt64.toUInt64).toInt64)), (.int (2 : Int32)), (.ref aa)])
  refine Rch.go (fun _ q => XS.l2i X103.here hx rfl (hb hby at_30) rfl q) ?_
  show Rch p ev below _ T103 (mkF m 31 #[.val (.long p1), .second, .val (.int p2), .val (.int p3), .val (.ref aa), .unset, .unset, .unset] [(.int (((p1.toUInt64 >>> ((16 : Int32) &&& 0x3f).toInt64.toUInt64).toInt64).toInt32)), (.int (2 : Int32)), (.ref aa)])
  refine Rch.go (fun _ q => XS.i2b X103.here hx rfl (hb hby at_31) rfl q) ?_
  show Rch p ev below _ T103 (mkF m 32 #[.val (.long p1), .second, .val (.int p2), .val (.int p3), .val (.ref aa), .unset, .unset, .unset] [(.int ((((p1.toUInt64 >>> ((16 : Int32) &&& 0x3f).toInt64.toUInt64).toInt64).toInt32).toInt8.toInt32)), (.int (2 : Int32)), (.ref aa)])
  obtain ⟨T104, h104, X104, e104, W104, V104, st104⟩ := sdB X103 hx hZ e103 V_aa_103 (j := (2 : Int32)) (by decide) 2 (by decide) (Nat.le_of_ble_eq_true rfl) (g := (mkF m 32 #[.val (.long p1), .second, .val (.int p2), .val (.int p3), .val (.ref aa), .unset, .unset, .unset] [(.int ((((p1.toUInt64 >>> ((16 : Int32) &&& 0x3f).toInt64.toUInt64).toInt64).toInt32).toInt8.toInt32)), (.int (2 : Int32)), (.ref aa)])) rfl rfl (hb hby at_32)
  have V_aa_104 : Arv Z h104 aa kk_aa .byte 6 [(.int (nar .byte ((p1.toInt32).toInt8.toInt32))), (.int (nar .byte ((((p1.toUInt64 >>> ((8 : Int32) &&& 0x3f).toInt64.toUInt64).toInt64).toInt32).toInt8.toInt32))), (.int (nar .byte ((((p1.toUInt64 >>> ((16 : Int32) &&& 0x3f).toInt64.toUInt64).toInt64).toInt32).toInt8.toInt32))), (.int 0), (.int 0), (.int 0)] (.int 0) := V104
  have N104 := Fr.snoc X104 N103 le_aa
  have Z104 : n0 ≤ h104.size := by rw [W104.size]; exact Z103
  refine Rch.go st104 ?_
  show Rch p ev below _ T104 (mkF m 33 #[.val (.long p1), .second, .val (.int p2), .val (.int p3), .val (.ref aa), .unset, .unset, .unset] [])
  refine Rch.go (fun _ q => XS.aload X104.here hx rfl (hb hby at_33) rfl rfl q) ?_
  show Rch p ev below _ T104 (mkF m 35 #[.val (.long p1), .second, .val (.int p2), .val (.int p3), .val (.ref aa), .unset, .unset, .unset] [(.ref aa)])
  refine Rch.go (fun _ q => XS.iconst X104.here hx rfl (hb hby at_35) q) ?_
  show Rch p ev below _ T104 (mkF m 36 #[.val (.long p1), .second, .val (.int p2), .val (.int p3), .val (.ref aa), .unset, .unset, .unset] [(.int (3 : Int32)), (.ref aa)])
  refine Rch.go (fun _ q => XS.lloadN X104.here hx rfl (hb hby at_36) rfl  q) ?_
  show Rch p ev below _ T104 (mkF m 37 #[.val (.long p1), .second, .val (.int p2), .val (.int p3), .val (.ref aa), .unset, .unset, .unset] [(.long p1), (.int (3 : Int32)), (.ref aa)])
  refine Rch.go (fun _ q => XS.bipush X104.here hx rfl (hb hby at_37) q) ?_
  show Rch p ev below _ T104 (mkF m 39 #[.val (.long p1), .second, .val (.int p2), .val (.int p3), .val (.ref aa), .unset, .unset, .unset] [(.int (24 : Int32)), (.long p1), (.int (3 : Int32)), (.ref aa)])
  refine Rch.go (fun _ q => XS.lushr X104.here hx rfl (hb hby at_39) rfl q) ?_
  show Rch p ev below _ T104 (mkF m 40 #[.val (.long p1), .second, .val (.int p2), .val (.int p3), .val (.ref aa), .unset, .unset, .unset] [(.long ((p1.toUInt64 >>> ((24 : Int32) &&& 0x3f).toInt64.toUInt64).toInt64)), (.int (3 : Int32)), (.ref aa)])
  refine Rch.go (fun _ q => XS.l2i X104.here hx rfl (hb hby at_40) rfl q) ?_
  show Rch p ev below _ T104 (mkF m 41 #[.val (.long p1), .second, .val (.int p2), .val (.int p3), .val (.ref aa), .unset, .unset, .unset] [(.int (((p1.toUInt64 >>> ((24 : Int32) &&& 0x3f).toInt64.toUInt64).toInt64).toInt32)), (.int (3 : Int32)), (.ref aa)])
  refine Rch.go (fun _ q => XS.i2b X104.here hx rfl (hb hby at_41) rfl q) ?_
  show Rch p ev below _ T104 (mkF m 42 #[.val (.long p1), .second, .val (.int p2), .val (.int p3), .val (.ref aa), .unset, .unset, .unset] [(.int ((((p1.toUInt64 >>> ((24 : Int32) &&& 0x3f).toInt64.toUInt64).toInt64).toInt32).toInt8.toInt32)), (.int (3 : Int32)), (.ref aa)])
  obtain ⟨T105, h105, X105, e105, W105, V105, st105⟩ := sdB X104 hx hZ e104 V_aa_104 (j := (3 : Int32)) (by decide) 3 (by decide) (Nat.le_of_ble_eq_true rfl) (g := (mkF m 42 #[.val (.long p1), .second, .val (.int p2), .val (.int p3), .val (.ref aa), .unset, .unset, .unset] [(.int ((((p1.toUInt64 >>> ((24 : Int32) &&& 0x3f).toInt64.toUInt64).toInt64).toInt32).toInt8.toInt32)), (.int (3 : Int32)), (.ref aa)])) rfl rfl (hb hby at_42)
  have V_aa_105 : Arv Z h105 aa kk_aa .byte 6 [(.int (nar .byte ((p1.toInt32).toInt8.toInt32))), (.int (nar .byte ((((p1.toUInt64 >>> ((8 : Int32) &&& 0x3f).toInt64.toUInt64).toInt64).toInt32).toInt8.toInt32))), (.int (nar .byte ((((p1.toUInt64 >>> ((16 : Int32) &&& 0x3f).toInt64.toUInt64).toInt64).toInt32).toInt8.toInt32))), (.int (nar .byte ((((p1.toUInt64 >>> ((24 : Int32) &&& 0x3f).toInt64.toUInt64).toInt64).toInt32).toInt8.toInt32))), (.int 0), (.int 0)] (.int 0) := V105
  have N105 := Fr.snoc X105 N104 le_aa
  have Z105 : n0 ≤ h105.size := by rw [W105.size]; exact Z104
  refine Rch.go st105 ?_
  show Rch p ev below _ T105 (mkF m 43 #[.val (.long p1), .second, .val (.int p2), .val (.int p3), .val (.ref aa), .unset, .unset, .unset] [])
  refine Rch.go (fun _ q => XS.aload X105.here hx rfl (hb hby at_43) rfl rfl q) ?_
  show Rch p ev below _ T105 (mkF m 45 #[.val (.long p1), .second, .val (.int p2), .val (.int p3), .val (.ref aa), .unset, .unset, .unset] [(.ref aa)])
  refine Rch.go (fun _ q => XS.iconst X105.here hx rfl (hb hby at_45) q) ?_
  show Rch p ev below _ T105 (mkF m 46 #[.val (.long p1), .second, .val (.int p2), .val (.int p3), .val (.ref aa), .unset, .unset, .unset] [(.int (4 : Int32)), (.ref aa)])
  refine Rch.go (fun _ q => XS.lloadN X105.here hx rfl (hb hby at_46) rfl  q) ?_
  show Rch p ev below _ T105 (mkF m 47 #[.val (.long p1), .second, .val (.int p2), .val (.int p3), .val (.ref aa), .unset, .unset, .unset] [(.long p1), (.int (4 : Int32)), (.ref aa)])
  refine Rch.go (fun _ q => XS.bipush X105.here hx rfl (hb hby at_47) q) ?_
  show Rch p ev below _ T105 (mkF m 49 #[.val (.long p1), .second, .val (.int p2), .val (.int p3), .val (.ref aa), .unset, .unset, .unset] [(.int (32 : Int32)), (.long p1), (.int (4 : Int32)), (.ref aa)])
  refine Rch.go (fun _ q => XS.lushr X105.here hx rfl (hb hby at_49) rfl q) ?_
  show Rch p ev below _ T105 (mkF m 50 #[.val (.long p1), .second, .val (.int p2), .val (.int p3), .val (.ref aa), .unset, .unset, .unset] [(.long ((p1.toUInt64 >>> ((32 : Int32) &&& 0x3f).toInt64.toUInt64).toInt64)), (.int (4 : Int32)), (.ref aa)])
  refine Rch.go (fun _ q => XS.l2i X105.here hx rfl (hb hby at_50) rfl q) ?_
  show Rch p ev below _ T105 (mkF m 51 #[.val (.long p1), .second, .val (.int p2), .val (.int p3), .val (.ref aa), .unset, .unset, .unset] [(.int (((p1.toUInt64 >>> ((32 : Int32) &&& 0x3f).toInt64.toUInt64).toInt64).toInt32)), (.int (4 : Int32)), (.ref aa)])
  refine Rch.go (fun _ q => XS.i2b X105.here hx rfl (hb hby at_51) rfl q) ?_
  show Rch p ev below _ T105 (mkF m 52 #[.val (.long p1), .second, .val (.int p2), .val (.int p3), .val (.ref aa), .unset, .unset, .unset] [(.int ((((p1.toUInt64 >>> ((32 : Int32) &&& 0x3f).toInt64.toUInt64).toInt64).toInt32).toInt8.toInt32)), (.int (4 : Int32)), (.ref aa)])
  obtain ⟨T106, h106, X106, e106, W106, V106, st106⟩ := sdB X105 hx hZ e105 V_aa_105 (j := (4 : Int32)) (by decide) 4 (by decide) (Nat.le_of_ble_eq_true rfl) (g := (mkF m 52 #[.val (.long p1), .second, .val (.int p2), .val (.int p3), .val (.ref aa), .unset, .unset, .unset] [(.int ((((p1.toUInt64 >>> ((32 : Int32) &&& 0x3f).toInt64.toUInt64).toInt64).toInt32).toInt8.toInt32)), (.int (4 : Int32)), (.ref aa)])) rfl rfl (hb hby at_52)
  have V_aa_106 : Arv Z h106 aa kk_aa .byte 6 [(.int (nar .byte ((p1.toInt32).toInt8.toInt32))), (.int (nar .byte ((((p1.toUInt64 >>> ((8 : Int32) &&& 0x3f).toInt64.toUInt64).toInt64).toInt32).toInt8.toInt32))), (.int (nar .byte ((((p1.toUInt64 >>> ((16 : Int32) &&& 0x3f).toInt64.toUInt64).toInt64).toInt32).toInt8.toInt32))), (.int (nar .byte ((((p1.toUInt64 >>> ((24 : Int32) &&& 0x3f).toInt64.toUInt64).toInt64).toInt32).toInt8.toInt32))), (.int (nar .byte ((((p1.toUInt64 >>> ((32 : Int32) &&& 0x3f).toInt64.toUInt64).toInt64).toInt32).toInt8.toInt32))), (.int 0)] (.int 0) := V106
  have N106 := Fr.snoc X106 N105 le_aa
  have Z106 : n0 ≤ h106.size := by rw [W106.size]; exact Z105
  refine Rch.go st106 ?_
  show Rch p ev below _ T106 (mkF m 53 #[.val (.long p1), .second, .val (.int p2), .val (.int p3), .val (.ref aa), .unset, .unset, .unset] [])
  refine Rch.go (fun _ q => XS.aload X106.here hx rfl (hb hby at_53) rfl rfl q) ?_
  show Rch p ev below _ T106 (mkF m 55 #[.val (.long p1), .second, .val (.int p2), .val (.int p3), .val (.ref aa), .unset, .unset, .unset] [(.ref aa)])
  refine Rch.go (fun _ q => XS.iconst X106.here hx rfl (hb hby at_55) q) ?_
  show Rch p ev below _ T106 (mkF m 56 #[.val (.long p1), .second, .val (.int p2), .val (.int p3), .val (.ref aa), .unset, .unset, .unset] [(.int (5 : Int32)), (.ref aa)])
  refine Rch.go (fun _ q => XS.lloadN X106.here hx rfl (hb hby at_56) rfl  q) ?_
  show Rch p ev below _ T106 (mkF m 57 #[.val (.long p1), .second, .val (.int p2), .val (.int p3), .val (.ref aa), .unset, .unset, .unset] [(.long p1), (.int (5 : Int32)), (.ref aa)])
  refine Rch.go (fun _ q => XS.bipush X106.here hx rfl (hb hby at_57) q) ?_
  show Rch p ev below _ T106 (mkF m 59 #[.val (.long p1), .second, .val (.int p2), .val (.int p3), .val (.ref aa), .unset, .unset, .unset] [(.int (40 : Int32)), (.long p1), (.int (5 : Int32)), (.ref aa)])
  refine Rch.go (fun _ q => XS.lushr X106.here hx rfl (hb hby at_59) rfl q) ?_
  show Rch p ev below _ T106 (mkF m 60 #[.val (.long p1), .second, .val (.int p2), .val (.int p3), .val (.ref aa), .unset, .unset, .unset] [(.long ((p1.toUInt64 >>> ((40 : Int32) &&& 0x3f).toInt64.toUInt64).toInt64)), (.int (5 : Int32)), (.ref aa)])
  refine Rch.go (fun _ q => XS.l2i X106.here hx rfl (hb hby at_60) rfl q) ?_
  show Rch p ev below _ T106 (mkF m 61 #[.val (.long p1), .second, .val (.int p2), .val (.int p3), .val (.ref aa), .unset, .unset, .unset] [(.int (((p1.toUInt64 >>> ((40 : Int32) &&& 0x3f).toInt64.toUInt64).toInt64).toInt32)), (.int (5 : Int32)), (.ref aa)])
  refine Rch.go (fun _ q => XS.i2b X106.here hx rfl (hb hby at_61) rfl q) ?_
  show Rch p ev below _ T106 (mkF m 62 #[.val (.long p1), .second, .val (.int p2), .val (.int p3), .val (.ref aa), .unset, .unset, .unset] [(.int ((((p1.toUInt64 >>> ((40 : Int32) &&& 0x3f).toInt64.toUInt64).toInt64).toInt32).toInt8.toInt32)), (.int (5 : Int32)), (.ref aa)])
  obtain ⟨T107, h107, X107, e107, W107, V107, st107⟩ := sdB X106 hx hZ e106 V_aa_106 (j := (5 : Int32)) (by decide) 5 (by decide) (Nat.le_of_ble_eq_true rfl) (g := (mkF m 62 #[.val (.long p1), .second, .val (.int p2), .val (.int p3), .val (.ref aa), .unset, .unset, .unset] [(.int ((((p1.toUInt64 >>> ((40 : Int32) &&& 0x3f).toInt64.toUInt64).toInt64).toInt32).toInt8.toInt32)), (.int (5 : Int32)), (.ref aa)])) rfl rfl (hb hby at_62)
  have V_aa_107 : Arv Z h107 aa kk_aa .byte 6 [(.int (nar .byte ((p1.toInt32).toInt8.toInt32))), (.int (nar .byte ((((p1.toUInt64 >>> ((8 : Int32) &&& 0x3f).toInt64.toUInt64).toInt64).toInt32).toInt8.toInt32))), (.int (nar .byte ((((p1.toUInt64 >>> ((16 : Int32) &&& 0x3f).toInt64.toUInt64).toInt64).toInt32).toInt8.toInt32))), (.int (nar .byte ((((p1.toUInt64 >>> ((24 : Int32) &&& 0x3f).toInt64.toUInt64).toInt64).toInt32).toInt8.toInt32))), (.int (nar .byte ((((p1.toUInt64 >>> ((32 : Int32) &&& 0x3f).toInt64.toUInt64).toInt64).toInt32).toInt8.toInt32))), (.int (nar .byte ((((p1.toUInt64 >>> ((40 : Int32) &&& 0x3f).toInt64.toUInt64).toInt64).toInt32).toInt8.toInt32)))] (.int 0) := V107
  have N107 := Fr.snoc X107 N106 le_aa
  have Z107 : n0 ≤ h107.size := by rw [W107.size]; exact Z106
  refine Rch.go st107 ?_
  show Rch p ev below _ T107 (mkF m 63 #[.val (.long p1), .second, .val (.int p2), .val (.int p3), .val (.ref aa), .unset, .unset, .unset] [])
  refine Rch.go (fun _ q => XS.iloadN X107.here hx rfl (hb hby at_63) rfl  q) ?_
  show Rch p ev below _ T107 (mkF m 64 #[.val (.long p1), .second, .val (.int p2), .val (.int p3), .val (.ref aa), .unset, .unset, .unset] [(.int p2)])
  refine Rch.go (fun _ q => X107.ldcI hx (own := "com/example/slicewright/slicewright/runtime/Utf8WellFormedUpToPinLaw") hown (mvT hZ (hw _ (List.mem_of_getElem? (i := 1) rfl))) rfl (hb hby at_64) q) ?_
  show Rch p ev below _ T107 (mkF m 66 #[.val (.long p1), .second, .val (.int p2), .val (.int p3), .val (.ref aa), .unset, .unset, .unset] [(.int (2147483647 : Int32)), (.int p2)])
  refine Rch.go (fun _ q => XS.iand X107.here hx rfl (hb hby at_66) rfl q) ?_
  show Rch p ev below _ T107 (mkF m 67 #[.val (.long p1), .second, .val (.int p2), .val (.int p3), .val (.ref aa), .unset, .unset, .unset] [(.int (p2 &&& (2147483647 : Int32)))])
  refine Rch.go (fun _ q => XS.bipush X107.here hx rfl (hb hby at_67) q) ?_
  show Rch p ev below _ T107 (mkF m 69 #[.val (.long p1), .second, .val (.int p2), .val (.int p3), .val (.ref aa), .unset, .unset, .unset] [(.int (7 : Int32)), (.int (p2 &&& (2147483647 : Int32)))])
  refine Rch.go (fun _ q => iremM X107 hx rfl (hb hby at_69) rfl (by decide) q) ?_
  show Rch p ev below _ T107 (mkF m 70 #[.val (.long p1), .second, .val (.int p2), .val (.int p3), .val (.ref aa), .unset, .unset, .unset] [(.int ((p2 &&& (2147483647 : Int32)) % (7 : Int32)))])
  refine Rch.go (fun _ q => XS.istore X107.here hx rfl (hb hby at_70) rfl (l' := #[.val (.long p1), .second, .val (.int p2), .val (.int p3), .val (.ref aa), .val (.int ((p2 &&& (2147483647 : Int32)) % (7 : Int32))), .unset, .unset]) rfl q) ?_
  show Rch p ev below _ T107 (mkF m 72 #[.val (.long p1), .second, .val (.int p2), .val (.int p3), .val (.ref aa), .val (.int ((p2 &&& (2147483647 : Int32)) % (7 : Int32))), .unset, .unset] [])
  have hfr := own_from p2
  obtain ⟨fr, g_fr⟩ : ∃ q, q = ((p2 &&& (2147483647 : Int32)) % (7 : Int32)) := ⟨_, rfl⟩
  rw [← g_fr]
  show Rch p ev below _ T107 (mkF m 72 #[.val (.long p1), .second, .val (.int p2), .val (.int p3), .val (.ref aa), .val (.int fr), .unset, .unset] [])
  rw [← g_fr] at hfr
  refine Rch.go (fun _ q => XS.iload X107.here hx rfl (hb hby at_72) rfl  q) ?_
  show Rch p ev below _ T107 (mkF m 74 #[.val (.long p1), .second, .val (.int p2), .val (.int p3), .val (.ref aa), .val (.int fr), .unset, .unset] [(.int fr)])
  refine Rch.go (fun _ q => XS.iloadN X107.here hx rfl (hb hby at_74) rfl  q) ?_
  show Rch p ev below _ T107 (mkF m 75 #[.val (.long p1), .second, .val (.int p2), .val (.int p3), .val (.ref aa), .val (.int fr), .unset, .unset] [(.int p3), (.int fr)])
  refine Rch.go (fun _ q => X107.ldcI hx (own := "com/example/slicewright/slicewright/runtime/Utf8WellFormedUpToPinLaw") hown (mvT hZ (hw _ (List.mem_of_getElem? (i := 1) rfl))) rfl (hb hby at_75) q) ?_
  show Rch p ev below _ T107 (mkF m 77 #[.val (.long p1), .second, .val (.int p2), .val (.int p3), .val (.ref aa), .val (.int fr), .unset, .unset] [(.int (2147483647 : Int32)), (.int p3), (.int fr)])
  refine Rch.go (fun _ q => XS.iand X107.here hx rfl (hb hby at_77) rfl q) ?_
  show Rch p ev below _ T107 (mkF m 78 #[.val (.long p1), .second, .val (.int p2), .val (.int p3), .val (.ref aa), .val (.int fr), .unset, .unset] [(.int (p3 &&& (2147483647 : Int32))), (.int fr)])
  refine Rch.go (fun _ q => XS.bipush X107.here hx rfl (hb hby at_78) q) ?_
  show Rch p ev below _ T107 (mkF m 80 #[.val (.long p1), .second, .val (.int p2), .val (.int p3), .val (.ref aa), .val (.int fr), .unset, .unset] [(.int (7 : Int32)), (.int (p3 &&& (2147483647 : Int32))), (.int fr)])
  refine Rch.go (fun _ q => XS.iload X107.here hx rfl (hb hby at_80) rfl  q) ?_
  show Rch p ev below _ T107 (mkF m 82 #[.val (.long p1), .second, .val (.int p2), .val (.int p3), .val (.ref aa), .val (.int fr), .unset, .unset] [(.int fr), (.int (7 : Int32)), (.int (p3 &&& (2147483647 : Int32))), (.int fr)])
  refine Rch.go (fun _ q => XS.isub X107.here hx rfl (hb hby at_82) rfl q) ?_
  show Rch p ev below _ T107 (mkF m 83 #[.val (.long p1), .second, .val (.int p2), .val (.int p3), .val (.ref aa), .val (.int fr), .unset, .unset] [(.int ((7 : Int32) - fr)), (.int (p3 &&& (2147483647 : Int32))), (.int fr)])
  refine Rch.go (fun _ q => iremM X107 hx rfl (hb hby at_83) rfl (own_nz fr hfr.1 hfr.2) q) ?_
  show Rch p ev below _ T107 (mkF m 84 #[.val (.long p1), .second, .val (.int p2), .val (.int p3), .val (.ref aa), .val (.int fr), .unset, .unset] [(.int ((p3 &&& (2147483647 : Int32)) % ((7 : Int32) - fr))), (.int fr)])
  refine Rch.go (fun _ q => XS.iadd X107.here hx rfl (hb hby at_84) rfl q) ?_
  show Rch p ev below _ T107 (mkF m 85 #[.val (.long p1), .second, .val (.int p2), .val (.int p3), .val (.ref aa), .val (.int fr), .unset, .unset] [(.int (fr + ((p3 &&& (2147483647 : Int32)) % ((7 : Int32) - fr))))])
  refine Rch.go (fun _ q => XS.istore X107.here hx rfl (hb hby at_85) rfl (l' := #[.val (.long p1), .second, .val (.int p2), .val (.int p3), .val (.ref aa), .val (.int fr), .val (.int (fr + ((p3 &&& (2147483647 : Int32)) % ((7 : Int32) - fr)))), .unset]) rfl q) ?_
  show Rch p ev below _ T107 (mkF m 87 #[.val (.long p1), .second, .val (.int p2), .val (.int p3), .val (.ref aa), .val (.int fr), .val (.int (fr + ((p3 &&& (2147483647 : Int32)) % ((7 : Int32) - fr)))), .unset] [])
  have hto := own_to fr p3 hfr.1 hfr.2
  obtain ⟨to, g_to⟩ : ∃ q, q = (fr + ((p3 &&& (2147483647 : Int32)) % ((7 : Int32) - fr))) := ⟨_, rfl⟩
  rw [← g_to]
  show Rch p ev below _ T107 (mkF m 87 #[.val (.long p1), .second, .val (.int p2), .val (.int p3), .val (.ref aa), .val (.int fr), .val (.int to), .unset] [])
  rw [← g_to] at hto
  refine Rch.go (fun _ q => XS.aload X107.here hx rfl (hb hby at_87) rfl rfl q) ?_
  show Rch p ev below _ T107 (mkF m 89 #[.val (.long p1), .second, .val (.int p2), .val (.int p3), .val (.ref aa), .val (.int fr), .val (.int to), .unset] [(.ref aa)])
  refine Rch.go (fun _ q => XS.iload X107.here hx rfl (hb hby at_89) rfl  q) ?_
  show Rch p ev below _ T107 (mkF m 91 #[.val (.long p1), .second, .val (.int p2), .val (.int p3), .val (.ref aa), .val (.int fr), .val (.int to), .unset] [(.int fr), (.ref aa)])
  refine Rch.go (fun _ q => XS.iload X107.here hx rfl (hb hby at_91) rfl  q) ?_
  show Rch p ev below _ T107 (mkF m 93 #[.val (.long p1), .second, .val (.int p2), .val (.int p3), .val (.ref aa), .val (.int fr), .val (.int to), .unset] [(.int to), (.int fr), (.ref aa)])
  obtain ⟨_, _, ⟨T108, L108, k108, n108⟩, -, X108, ⟨Lc108, hQ108, l108, y108, z108⟩, st108⟩ := Jvm.LawKit.callS X107 hx (y := (⟨"com/example/slicewright/slicewright/runtime/Utf8", "wellFormedUpTo", "([BII)I"⟩ : MethodName)) hown (mvT hZ (hw _ (List.mem_of_getElem? (i := 2) rfl))) (mvT hZ (hw _ (List.mem_of_getElem? (i := 3) rfl))) (mvT hZ (hw _ (List.mem_of_getElem? (i := 4) rfl))) (mvT hZ (hw _ (List.mem_of_getElem? (i := 5) rfl))) (by decide) (backOf (W := 0) (rm4 l Z a0 hw [] aa fr to kk_aa [(nar .byte ((p1.toInt32).toInt8.toInt32)), (nar .byte ((((p1.toUInt64 >>> ((8 : Int32) &&& 0x3f).toInt64.toUInt64).toInt64).toInt32).toInt8.toInt32)), (nar .byte ((((p1.toUInt64 >>> ((16 : Int32) &&& 0x3f).toInt64.toUInt64).toInt64).toInt32).toInt8.toInt32)), (nar .byte ((((p1.toUInt64 >>> ((24 : Int32) &&& 0x3f).toInt64.toUInt64).toInt64).toInt32).toInt8.toInt32)), (nar .byte ((((p1.toUInt64 >>> ((32 : Int32) &&& 0x3f).toInt64.toUInt64).toInt64).toInt32).toInt8.toInt32)), (nar .byte ((((p1.toUInt64 >>> ((40 : Int32) &&& 0x3f).toInt64.toUInt64).toInt64).toInt32).toInt8.toInt32))] h107 n0 Z107 V_aa_107 hfr.1 hto.1 hto.2) hZ (hw _ (List.mem_of_getElem? (i := 5) rfl)) (hw _ (List.mem_of_getElem? (i := 4) rfl)) (by decide) (by decide)) (g := (mkF m 93 #[.val (.long p1), .second, .val (.int p2), .val (.int p3), .val (.ref aa), .val (.int fr), .val (.int to), .unset] [(.int to), (.int fr), (.ref aa)])) rfl (by rw [hml]; rfl) (argsL := [(.ref aa), (.int fr), (.int to)]) (rest := []) (lenOf own_pd3 rfl) rfl (by show 2 * 0 + _ ≤ _; exact Nat.le_of_eq rfl) (hb hby at_93) (fun _ _ => ⟨rfl, e107, (by decide : 1 + 0 ≤ _), (by decide : 6 + 0 ≤ _)⟩)
  dsimp only [Pt.U, Pt.locs, Pt.cells, Pt.slots] at X108 l108 y108 z108 st108 hQ108
  subst l108 y108 z108
  obtain ⟨rfl, Nc, ec⟩ := hQ108
  refine Rch.go st108 ?_
  show Rch p ev below _ T108 (mkF m 96 #[.val (.long p1), .second, .val (.int p2), .val (.int p3), .val (.ref aa), .val (.int fr), .val (.int to), .unset] [(.int (own_wf (fun q => own_st (own_c [(nar .byte ((p1.toInt32).toInt8.toInt32)), (nar .byte ((((p1.toUInt64 >>> ((8 : Int32) &&& 0x3f).toInt64.toUInt64).toInt64).toInt32).toInt8.toInt32)), (nar .byte ((((p1.toUInt64 >>> ((16 : Int32) &&& 0x3f).toInt64.toUInt64).toInt64).toInt32).toInt8.toInt32)), (nar .byte ((((p1.toUInt64 >>> ((24 : Int32) &&& 0x3f).toInt64.toUInt64).toInt64).toInt32).toInt8.toInt32)), (nar .byte ((((p1.toUInt64 >>> ((32 : Int32) &&& 0x3f).toInt64.toUInt64).toInt64).toInt32).toInt8.toInt32)), (nar .byte ((((p1.toUInt64 >>> ((40 : Int32) &&& 0x3f).toInt64.toUInt64).toInt64).toInt32).toInt8.toInt32))] q 0) (own_c [(nar .byte ((p1.toInt32).toInt8.toInt32)), (nar .byte ((((p1.toUInt64 >>> ((8 : Int32) &&& 0x3f).toInt64.toUInt64).toInt64).toInt32).toInt8.toInt32)), (nar .byte ((((p1.toUInt64 >>> ((16 : Int32) &&& 0x3f).toInt64.toUInt64).toInt64).toInt32).toInt8.toInt32)), (nar .byte ((((p1.toUInt64 >>> ((24 : Int32) &&& 0x3f).toInt64.toUInt64).toInt64).toInt32).toInt8.toInt32)), (nar .byte ((((p1.toUInt64 >>> ((32 : Int32) &&& 0x3f).toInt64.toUInt64).toInt64).toInt32).toInt8.toInt32)), (nar .byte ((((p1.toUInt64 >>> ((40 : Int32) &&& 0x3f).toInt64.toUInt64).toInt64).toInt32).toInt8.toInt32))] q 1) (own_c [(nar .byte ((p1.toInt32).toInt8.toInt32)), (nar .byte ((((p1.toUInt64 >>> ((8 : Int32) &&& 0x3f).toInt64.toUInt64).toInt64).toInt32).toInt8.toInt32)), (nar .byte ((((p1.toUInt64 >>> ((16 : Int32) &&& 0x3f).toInt64.toUInt64).toInt64).toInt32).toInt8.toInt32)), (nar .byte ((((p1.toUInt64 >>> ((24 : Int32) &&& 0x3f).toInt64.toUInt64).toInt64).toInt32).toInt8.toInt32)), (nar .byte ((((p1.toUInt64 >>> ((32 : Int32) &&& 0x3f).toInt64.toUInt64).toInt64).toInt32).toInt8.toInt32)), (nar .byte ((((p1.toUInt64 >>> ((40 : Int32) &&& 0x3f).toInt64.toUInt64).toInt64).toInt32).toInt8.toInt32))] q 2) (own_c [(nar .byte ((p1.toInt32).toInt8.toInt32)), (nar .byte ((((p1.toUInt64 >>> ((8 : Int32) &&& 0x3f).toInt64.toUInt64).toInt64).toInt32).toInt8.toInt32)), (nar .byte ((((p1.toUInt64 >>> ((16 : Int32) &&& 0x3f).toInt64.toUInt64).toInt64).toInt32).toInt8.toInt32)), (nar .byte ((((p1.toUInt64 >>> ((24 : Int32) &&& 0x3f).toInt64.toUInt64).toInt64).toInt32).toInt8.toInt32)), (nar .byte ((((p1.toUInt64 >>> ((32 : Int32) &&& 0x3f).toInt64.toUInt64).toInt64).toInt32).toInt8.toInt32)), (nar .byte ((((p1.toUInt64 >>> ((40 : Int32) &&& 0x3f).toInt64.toUInt64).toInt64).toInt32).toInt8.toInt32))] q 3) (to - q)) to 6 fr))])
  have N108 := Fr.app N107 Nc
  have e108 := ec
  refine Rch.go (fun _ q => XS.istore X108.here hx rfl (hb hby at_96) rfl (l' := #[.val (.long p1), .second, .val (.int p2), .val (.int p3), .val (.ref aa), .val (.int fr), .val (.int to), .val (.int (own_wf (fun q => own_st (own_c [(nar .byte ((p1.toInt32).toInt8.toInt32)), (nar .byte ((((p1.toUInt64 >>> ((8 : Int32) &&& 0x3f).toInt64.toUInt64).toInt64).toInt32).toInt8.toInt32)), (nar .byte ((((p1.toUInt64 >>> ((16 : Int32) &&& 0x3f).toInt64.toUInt64).toInt64).toInt32).toInt8.toInt32)), (nar .byte ((((p1.toUInt64 >>> ((24 : Int32) &&& 0x3f).toInt64.toUInt64).toInt64).toInt32).toInt8.toInt32)), (nar .byte ((((p1.toUInt64 >>> ((32 : Int32) &&& 0x3f).toInt64.toUInt64).toInt64).toInt32).toInt8.toInt32)), (nar .byte ((((p1.toUInt64 >>> ((40 : Int32) &&& 0x3f).toInt64.toUInt64).toInt64).toInt32).toInt8.toInt32))] q 0) (own_c [(nar .byte ((p1.toInt32).toInt8.toInt32)), (nar .byte ((((p1.toUInt64 >>> ((8 : Int32) &&& 0x3f).toInt64.toUInt64).toInt64).toInt32).toInt8.toInt32)), (nar .byte ((((p1.toUInt64 >>> ((16 : Int32) &&& 0x3f).toInt64.toUInt64).toInt64).toInt32).toInt8.toInt32)), (nar .byte ((((p1.toUInt64 >>> ((24 : Int32) &&& 0x3f).toInt64.toUInt64).toInt64).toInt32).toInt8.toInt32)), (nar .byte ((((p1.toUInt64 >>> ((32 : Int32) &&& 0x3f).toInt64.toUInt64).toInt64).toInt32).toInt8.toInt32)), (nar .byte ((((p1.toUInt64 >>> ((40 : Int32) &&& 0x3f).toInt64.toUInt64).toInt64).toInt32).toInt8.toInt32))] q 1) (own_c [(nar .byte ((p1.toInt32).toInt8.toInt32)), (nar .byte ((((p1.toUInt64 >>> ((8 : Int32) &&& 0x3f).toInt64.toUInt64).toInt64).toInt32).toInt8.toInt32)), (nar .byte ((((p1.toUInt64 >>> ((16 : Int32) &&& 0x3f).toInt64.toUInt64).toInt64).toInt32).toInt8.toInt32)), (nar .byte ((((p1.toUInt64 >>> ((24 : Int32) &&& 0x3f).toInt64.toUInt64).toInt64).toInt32).toInt8.toInt32)), (nar .byte ((((p1.toUInt64 >>> ((32 : Int32) &&& 0x3f).toInt64.toUInt64).toInt64).toInt32).toInt8.toInt32)), (nar .byte ((((p1.toUInt64 >>> ((40 : Int32) &&& 0x3f).toInt64.toUInt64).toInt64).toInt32).toInt8.toInt32))] q 2) (own_c [(nar .byte ((p1.toInt32).toInt8.toInt32)), (nar .byte ((((p1.toUInt64 >>> ((8 : Int32) &&& 0x3f).toInt64.toUInt64).toInt64).toInt32).toInt8.toInt32)), (nar .byte ((((p1.toUInt64 >>> ((16 : Int32) &&& 0x3f).toInt64.toUInt64).toInt64).toInt32).toInt8.toInt32)), (nar .byte ((((p1.toUInt64 >>> ((24 : Int32) &&& 0x3f).toInt64.toUInt64).toInt64).toInt32).toInt8.toInt32)), (nar .byte ((((p1.toUInt64 >>> ((32 : Int32) &&& 0x3f).toInt64.toUInt64).toInt64).toInt32).toInt8.toInt32)), (nar .byte ((((p1.toUInt64 >>> ((40 : Int32) &&& 0x3f).toInt64.toUInt64).toInt64).toInt32).toInt8.toInt32))] q 3) (to - q)) to 6 fr))]) rfl q) ?_
  show Rch p ev below _ T108 (mkF m 98 #[.val (.long p1), .second, .val (.int p2), .val (.int p3), .val (.ref aa), .val (.int fr), .val (.int to), .val (.int (own_wf (fun q => own_st (own_c [(nar .byte ((p1.toInt32).toInt8.toInt32)), (nar .byte ((((p1.toUInt64 >>> ((8 : Int32) &&& 0x3f).toInt64.toUInt64).toInt64).toInt32).toInt8.toInt32)), (nar .byte ((((p1.toUInt64 >>> ((16 : Int32) &&& 0x3f).toInt64.toUInt64).toInt64).toInt32).toInt8.toInt32)), (nar .byte ((((p1.toUInt64 >>> ((24 : Int32) &&& 0x3f).toInt64.toUInt64).toInt64).toInt32).toInt8.toInt32)), (nar .byte ((((p1.toUInt64 >>> ((32 : Int32) &&& 0x3f).toInt64.toUInt64).toInt64).toInt32).toInt8.toInt32)), (nar .byte ((((p1.toUInt64 >>> ((40 : Int32) &&& 0x3f).toInt64.toUInt64).toInt64).toInt32).toInt8.toInt32))] q 0) (own_c [(nar .byte ((p1.toInt32).toInt8.toInt32)), (nar .byte ((((p1.toUInt64 >>> ((8 : Int32) &&& 0x3f).toInt64.toUInt64).toInt64).toInt32).toInt8.toInt32)), (nar .byte ((((p1.toUInt64 >>> ((16 : Int32) &&& 0x3f).toInt64.toUInt64).toInt64).toInt32).toInt8.toInt32)), (nar .byte ((((p1.toUInt64 >>> ((24 : Int32) &&& 0x3f).toInt64.toUInt64).toInt64).toInt32).toInt8.toInt32)), (nar .byte ((((p1.toUInt64 >>> ((32 : Int32) &&& 0x3f).toInt64.toUInt64).toInt64).toInt32).toInt8.toInt32)), (nar .byte ((((p1.toUInt64 >>> ((40 : Int32) &&& 0x3f).toInt64.toUInt64).toInt64).toInt32).toInt8.toInt32))] q 1) (own_c [(nar .byte ((p1.toInt32).toInt8.toInt32)), (nar .byte ((((p1.toUInt64 >>> ((8 : Int32) &&& 0x3f).toInt64.toUInt64).toInt64).toInt32).toInt8.toInt32)), (nar .byte ((((p1.toUInt64 >>> ((16 : Int32) &&& 0x3f).toInt64.toUInt64).toInt64).toInt32).toInt8.toInt32)), (nar .byte ((((p1.toUInt64 >>> ((24 : Int32) &&& 0x3f).toInt64.toUInt64).toInt64).toInt32).toInt8.toInt32)), (nar .byte ((((p1.toUInt64 >>> ((32 : Int32) &&& 0x3f).toInt64.toUInt64).toInt64).toInt32).toInt8.toInt32)), (nar .byte ((((p1.toUInt64 >>> ((40 : Int32) &&& 0x3f).toInt64.toUInt64).toInt64).toInt32).toInt8.toInt32))] q 2) (own_c [(nar .byte ((p1.toInt32).toInt8.toInt32)), (nar .byte ((((p1.toUInt64 >>> ((8 : Int32) &&& 0x3f).toInt64.toUInt64).toInt64).toInt32).toInt8.toInt32)), (nar .byte ((((p1.toUInt64 >>> ((16 : Int32) &&& 0x3f).toInt64.toUInt64).toInt64).toInt32).toInt8.toInt32)), (nar .byte ((((p1.toUInt64 >>> ((24 : Int32) &&& 0x3f).toInt64.toUInt64).toInt64).toInt32).toInt8.toInt32)), (nar .byte ((((p1.toUInt64 >>> ((32 : Int32) &&& 0x3f).toInt64.toUInt64).toInt64).toInt32).toInt8.toInt32)), (nar .byte ((((p1.toUInt64 >>> ((40 : Int32) &&& 0x3f).toInt64.toUInt64).toInt64).toInt32).toInt8.toInt32))] q 3) (to - q)) to 6 fr))] [])
  refine Rch.go (fun _ q => XS.iload X108.here hx rfl (hb hby at_98) rfl  q) ?_
  show Rch p ev below _ T108 (mkF m 100 #[.val (.long p1), .second, .val (.int p2), .val (.int p3), .val (.ref aa), .val (.int fr), .val (.int to), .val (.int (own_wf (fun q => own_st (own_c [(nar .byte ((p1.toInt32).toInt8.toInt32)), (nar .byte ((((p1.toUInt64 >>> ((8 : Int32) &&& 0x3f).toInt64.toUInt64).toInt64).toInt32).toInt8.toInt32)), (nar .byte ((((p1.toUInt64 >>> ((16 : Int32) &&& 0x3f).toInt64.toUInt64).toInt64).toInt32).toInt8.toInt32)), (nar .byte ((((p1.toUInt64 >>> ((24 : Int32) &&& 0x3f).toInt64.toUInt64).toInt64).toInt32).toInt8.toInt32)), (nar .byte ((((p1.toUInt64 >>> ((32 : Int32) &&& 0x3f).toInt64.toUInt64).toInt64).toInt32).toInt8.toInt32)), (nar .byte ((((p1.toUInt64 >>> ((40 : Int32) &&& 0x3f).toInt64.toUInt64).toInt64).toInt32).toInt8.toInt32))] q 0) (own_c [(nar .byte ((p1.toInt32).toInt8.toInt32)), (nar .byte ((((p1.toUInt64 >>> ((8 : Int32) &&& 0x3f).toInt64.toUInt64).toInt64).toInt32).toInt8.toInt32)), (nar .byte ((((p1.toUInt64 >>> ((16 : Int32) &&& 0x3f).toInt64.toUInt64).toInt64).toInt32).toInt8.toInt32)), (nar .byte ((((p1.toUInt64 >>> ((24 : Int32) &&& 0x3f).toInt64.toUInt64).toInt64).toInt32).toInt8.toInt32)), (nar .byte ((((p1.toUInt64 >>> ((32 : Int32) &&& 0x3f).toInt64.toUInt64).toInt64).toInt32).toInt8.toInt32)), (nar .byte ((((p1.toUInt64 >>> ((40 : Int32) &&& 0x3f).toInt64.toUInt64).toInt64).toInt32).toInt8.toInt32))] q 1) (own_c [(nar .byte ((p1.toInt32).toInt8.toInt32)), (nar .byte ((((p1.toUInt64 >>> ((8 : Int32) &&& 0x3f).toInt64.toUInt64).toInt64).toInt32).toInt8.toInt32)), (nar .byte ((((p1.toUInt64 >>> ((16 : Int32) &&& 0x3f).toInt64.toUInt64).toInt64).toInt32).toInt8.toInt32)), (nar .byte ((((p1.toUInt64 >>> ((24 : Int32) &&& 0x3f).toInt64.toUInt64).toInt64).toInt32).toInt8.toInt32)), (nar .byte ((((p1.toUInt64 >>> ((32 : Int32) &&& 0x3f).toInt64.toUInt64).toInt64).toInt32).toInt8.toInt32)), (nar .byte ((((p1.toUInt64 >>> ((40 : Int32) &&& 0x3f).toInt64.toUInt64).toInt64).toInt32).toInt8.toInt32))] q 2) (own_c [(nar .byte ((p1.toInt32).toInt8.toInt32)), (nar .byte ((((p1.toUInt64 >>> ((8 : Int32) &&& 0x3f).toInt64.toUInt64).toInt64).toInt32).toInt8.toInt32)), (nar .byte ((((p1.toUInt64 >>> ((16 : Int32) &&& 0x3f).toInt64.toUInt64).toInt64).toInt32).toInt8.toInt32)), (nar .byte ((((p1.toUInt64 >>> ((24 : Int32) &&& 0x3f).toInt64.toUInt64).toInt64).toInt32).toInt8.toInt32)), (nar .byte ((((p1.toUInt64 >>> ((32 : Int32) &&& 0x3f).toInt64.toUInt64).toInt64).toInt32).toInt8.toInt32)), (nar .byte ((((p1.toUInt64 >>> ((40 : Int32) &&& 0x3f).toInt64.toUInt64).toInt64).toInt32).toInt8.toInt32))] q 3) (to - q)) to 6 fr))] [(.int (own_wf (fun q => own_st (own_c [(nar .byte ((p1.toInt32).toInt8.toInt32)), (nar .byte ((((p1.toUInt64 >>> ((8 : Int32) &&& 0x3f).toInt64.toUInt64).toInt64).toInt32).toInt8.toInt32)), (nar .byte ((((p1.toUInt64 >>> ((16 : Int32) &&& 0x3f).toInt64.toUInt64).toInt64).toInt32).toInt8.toInt32)), (nar .byte ((((p1.toUInt64 >>> ((24 : Int32) &&& 0x3f).toInt64.toUInt64).toInt64).toInt32).toInt8.toInt32)), (nar .byte ((((p1.toUInt64 >>> ((32 : Int32) &&& 0x3f).toInt64.toUInt64).toInt64).toInt32).toInt8.toInt32)), (nar .byte ((((p1.toUInt64 >>> ((40 : Int32) &&& 0x3f).toInt64.toUInt64).toInt64).toInt32).toInt8.toInt32))] q 0) (own_c [(nar .byte ((p1.toInt32).toInt8.toInt32)), (nar .byte ((((p1.toUInt64 >>> ((8 : Int32) &&& 0x3f).toInt64.toUInt64).toInt64).toInt32).toInt8.toInt32)), (nar .byte ((((p1.toUInt64 >>> ((16 : Int32) &&& 0x3f).toInt64.toUInt64).toInt64).toInt32).toInt8.toInt32)), (nar .byte ((((p1.toUInt64 >>> ((24 : Int32) &&& 0x3f).toInt64.toUInt64).toInt64).toInt32).toInt8.toInt32)), (nar .byte ((((p1.toUInt64 >>> ((32 : Int32) &&& 0x3f).toInt64.toUInt64).toInt64).toInt32).toInt8.toInt32)), (nar .byte ((((p1.toUInt64 >>> ((40 : Int32) &&& 0x3f).toInt64.toUInt64).toInt64).toInt32).toInt8.toInt32))] q 1) (own_c [(nar .byte ((p1.toInt32).toInt8.toInt32)), (nar .byte ((((p1.toUInt64 >>> ((8 : Int32) &&& 0x3f).toInt64.toUInt64).toInt64).toInt32).toInt8.toInt32)), (nar .byte ((((p1.toUInt64 >>> ((16 : Int32) &&& 0x3f).toInt64.toUInt64).toInt64).toInt32).toInt8.toInt32)), (nar .byte ((((p1.toUInt64 >>> ((24 : Int32) &&& 0x3f).toInt64.toUInt64).toInt64).toInt32).toInt8.toInt32)), (nar .byte ((((p1.toUInt64 >>> ((32 : Int32) &&& 0x3f).toInt64.toUInt64).toInt64).toInt32).toInt8.toInt32)), (nar .byte ((((p1.toUInt64 >>> ((40 : Int32) &&& 0x3f).toInt64.toUInt64).toInt64).toInt32).toInt8.toInt32))] q 2) (own_c [(nar .byte ((p1.toInt32).toInt8.toInt32)), (nar .byte ((((p1.toUInt64 >>> ((8 : Int32) &&& 0x3f).toInt64.toUInt64).toInt64).toInt32).toInt8.toInt32)), (nar .byte ((((p1.toUInt64 >>> ((16 : Int32) &&& 0x3f).toInt64.toUInt64).toInt64).toInt32).toInt8.toInt32)), (nar .byte ((((p1.toUInt64 >>> ((24 : Int32) &&& 0x3f).toInt64.toUInt64).toInt64).toInt32).toInt8.toInt32)), (nar .byte ((((p1.toUInt64 >>> ((32 : Int32) &&& 0x3f).toInt64.toUInt64).toInt64).toInt32).toInt8.toInt32)), (nar .byte ((((p1.toUInt64 >>> ((40 : Int32) &&& 0x3f).toInt64.toUInt64).toInt64).toInt32).toInt8.toInt32))] q 3) (to - q)) to 6 fr))])
  refine Rch.go (fun _ q => XS.aload X108.here hx rfl (hb hby at_100) rfl rfl q) ?_
  show Rch p ev below _ T108 (mkF m 102 #[.val (.long p1), .second, .val (.int p2), .val (.int p3), .val (.ref aa), .val (.int fr), .val (.int to), .val (.int (own_wf (fun q => own_st (own_c [(nar .byte ((p1.toInt32).toInt8.toInt32)), (nar .byte ((((p1.toUInt64 >>> ((8 : Int32) &&& 0x3f).toInt64.toUInt64).toInt64).toInt32).toInt8.toInt32)), (nar .byte ((((p1.toUInt64 >>> ((16 : Int32) &&& 0x3f).toInt64.toUInt64).toInt64).toInt32).toInt8.toInt32)), (nar .byte ((((p1.toUInt64 >>> ((24 : Int32) &&& 0x3f).toInt64.toUInt64).toInt64).toInt32).toInt8.toInt32)), (nar .byte ((((p1.toUInt64 >>> ((32 : Int32) &&& 0x3f).toInt64.toUInt64).toInt64).toInt32).toInt8.toInt32)), (nar .byte ((((p1.toUInt64 >>> ((40 : Int32) &&& 0x3f).toInt64.toUInt64).toInt64).toInt32).toInt8.toInt32))] q 0) (own_c [(nar .byte ((p1.toInt32).toInt8.toInt32)), (nar .byte ((((p1.toUInt64 >>> ((8 : Int32) &&& 0x3f).toInt64.toUInt64).toInt64).toInt32).toInt8.toInt32)), (nar .byte ((((p1.toUInt64 >>> ((16 : Int32) &&& 0x3f).toInt64.toUInt64).toInt64).toInt32).toInt8.toInt32)), (nar .byte ((((p1.toUInt64 >>> ((24 : Int32) &&& 0x3f).toInt64.toUInt64).toInt64).toInt32).toInt8.toInt32)), (nar .byte ((((p1.toUInt64 >>> ((32 : Int32) &&& 0x3f).toInt64.toUInt64).toInt64).toInt32).toInt8.toInt32)), (nar .byte ((((p1.toUInt64 >>> ((40 : Int32) &&& 0x3f).toInt64.toUInt64).toInt64).toInt32).toInt8.toInt32))] q 1) (own_c [(nar .byte ((p1.toInt32).toInt8.toInt32)), (nar .byte ((((p1.toUInt64 >>> ((8 : Int32) &&& 0x3f).toInt64.toUInt64).toInt64).toInt32).toInt8.toInt32)), (nar .byte ((((p1.toUInt64 >>> ((16 : Int32) &&& 0x3f).toInt64.toUInt64).toInt64).toInt32).toInt8.toInt32)), (nar .byte ((((p1.toUInt64 >>> ((24 : Int32) &&& 0x3f).toInt64.toUInt64).toInt64).toInt32).toInt8.toInt32)), (nar .byte ((((p1.toUInt64 >>> ((32 : Int32) &&& 0x3f).toInt64.toUInt64).toInt64).toInt32).toInt8.toInt32)), (nar .byte ((((p1.toUInt64 >>> ((40 : Int32) &&& 0x3f).toInt64.toUInt64).toInt64).toInt32).toInt8.toInt32))] q 2) (own_c [(nar .byte ((p1.toInt32).toInt8.toInt32)), (nar .byte ((((p1.toUInt64 >>> ((8 : Int32) &&& 0x3f).toInt64.toUInt64).toInt64).toInt32).toInt8.toInt32)), (nar .byte ((((p1.toUInt64 >>> ((16 : Int32) &&& 0x3f).toInt64.toUInt64).toInt64).toInt32).toInt8.toInt32)), (nar .byte ((((p1.toUInt64 >>> ((24 : Int32) &&& 0x3f).toInt64.toUInt64).toInt64).toInt32).toInt8.toInt32)), (nar .byte ((((p1.toUInt64 >>> ((32 : Int32) &&& 0x3f).toInt64.toUInt64).toInt64).toInt32).toInt8.toInt32)), (nar .byte ((((p1.toUInt64 >>> ((40 : Int32) &&& 0x3f).toInt64.toUInt64).toInt64).toInt32).toInt8.toInt32))] q 3) (to - q)) to 6 fr))] [(.ref aa), (.int (own_wf (fun q => own_st (own_c [(nar .byte ((p1.toInt32).toInt8.toInt32)), (nar .byte ((((p1.toUInt64 >>> ((8 : Int32) &&& 0x3f).toInt64.toUInt64).toInt64).toInt32).toInt8.toInt32)), (nar .byte ((((p1.toUInt64 >>> ((16 : Int32) &&& 0x3f).toInt64.toUInt64).toInt64).toInt32).toInt8.toInt32)), (nar .byte ((((p1.toUInt64 >>> ((24 : Int32) &&& 0x3f).toInt64.toUInt64).toInt64).toInt32).toInt8.toInt32)), (nar .byte ((((p1.toUInt64 >>> ((32 : Int32) &&& 0x3f).toInt64.toUInt64).toInt64).toInt32).toInt8.toInt32)), (nar .byte ((((p1.toUInt64 >>> ((40 : Int32) &&& 0x3f).toInt64.toUInt64).toInt64).toInt32).toInt8.toInt32))] q 0) (own_c [(nar .byte ((p1.toInt32).toInt8.toInt32)), (nar .byte ((((p1.toUInt64 >>> ((8 : Int32) &&& 0x3f).toInt64.toUInt64).toInt64).toInt32).toInt8.toInt32)), (nar .byte ((((p1.toUInt64 >>> ((16 : Int32) &&& 0x3f).toInt64.toUInt64).toInt64).toInt32).toInt8.toInt32)), (nar .byte ((((p1.toUInt64 >>> ((24 : Int32) &&& 0x3f).toInt64.toUInt64).toInt64).toInt32).toInt8.toInt32)), (nar .byte ((((p1.toUInt64 >>> ((32 : Int32) &&& 0x3f).toInt64.toUInt64).toInt64).toInt32).toInt8.toInt32)), (nar .byte ((((p1.toUInt64 >>> ((40 : Int32) &&& 0x3f).toInt64.toUInt64).toInt64).toInt32).toInt8.toInt32))] q 1) (own_c [(nar .byte ((p1.toInt32).toInt8.toInt32)), (nar .byte ((((p1.toUInt64 >>> ((8 : Int32) &&& 0x3f).toInt64.toUInt64).toInt64).toInt32).toInt8.toInt32)), (nar .byte ((((p1.toUInt64 >>> ((16 : Int32) &&& 0x3f).toInt64.toUInt64).toInt64).toInt32).toInt8.toInt32)), (nar .byte ((((p1.toUInt64 >>> ((24 : Int32) &&& 0x3f).toInt64.toUInt64).toInt64).toInt32).toInt8.toInt32)), (nar .byte ((((p1.toUInt64 >>> ((32 : Int32) &&& 0x3f).toInt64.toUInt64).toInt64).toInt32).toInt8.toInt32)), (nar .byte ((((p1.toUInt64 >>> ((40 : Int32) &&& 0x3f).toInt64.toUInt64).toInt64).toInt32).toInt8.toInt32))] q 2) (own_c [(nar .byte ((p1.toInt32).toInt8.toInt32)), (nar .byte ((((p1.toUInt64 >>> ((8 : Int32) &&& 0x3f).toInt64.toUInt64).toInt64).toInt32).toInt8.toInt32)), (nar .byte ((((p1.toUInt64 >>> ((16 : Int32) &&& 0x3f).toInt64.toUInt64).toInt64).toInt32).toInt8.toInt32)), (nar .byte ((((p1.toUInt64 >>> ((24 : Int32) &&& 0x3f).toInt64.toUInt64).toInt64).toInt32).toInt8.toInt32)), (nar .byte ((((p1.toUInt64 >>> ((32 : Int32) &&& 0x3f).toInt64.toUInt64).toInt64).toInt32).toInt8.toInt32)), (nar .byte ((((p1.toUInt64 >>> ((40 : Int32) &&& 0x3f).toInt64.toUInt64).toInt64).toInt32).toInt8.toInt32))] q 3) (to - q)) to 6 fr))])
  refine Rch.go (fun _ q => XS.iload X108.here hx rfl (hb hby at_102) rfl  q) ?_
  show Rch p ev below _ T108 (mkF m 104 #[.val (.long p1), .second, .val (.int p2), .val (.int p3), .val (.ref aa), .val (.int fr), .val (.int to), .val (.int (own_wf (fun q => own_st (own_c [(nar .byte ((p1.toInt32).toInt8.toInt32)), (nar .byte ((((p1.toUInt64 >>> ((8 : Int32) &&& 0x3f).toInt64.toUInt64).toInt64).toInt32).toInt8.toInt32)), (nar .byte ((((p1.toUInt64 >>> ((16 : Int32) &&& 0x3f).toInt64.toUInt64).toInt64).toInt32).toInt8.toInt32)), (nar .byte ((((p1.toUInt64 >>> ((24 : Int32) &&& 0x3f).toInt64.toUInt64).toInt64).toInt32).toInt8.toInt32)), (nar .byte ((((p1.toUInt64 >>> ((32 : Int32) &&& 0x3f).toInt64.toUInt64).toInt64).toInt32).toInt8.toInt32)), (nar .byte ((((p1.toUInt64 >>> ((40 : Int32) &&& 0x3f).toInt64.toUInt64).toInt64).toInt32).toInt8.toInt32))] q 0) (own_c [(nar .byte ((p1.toInt32).toInt8.toInt32)), (nar .byte ((((p1.toUInt64 >>> ((8 : Int32) &&& 0x3f).toInt64.toUInt64).toInt64).toInt32).toInt8.toInt32)), (nar .byte ((((p1.toUInt64 >>> ((16 : Int32) &&& 0x3f).toInt64.toUInt64).toInt64).toInt32).toInt8.toInt32)), (nar .byte ((((p1.toUInt64 >>> ((24 : Int32) &&& 0x3f).toInt64.toUInt64).toInt64).toInt32).toInt8.toInt32)), (nar .byte ((((p1.toUInt64 >>> ((32 : Int32) &&& 0x3f).toInt64.toUInt64).toInt64).toInt32).toInt8.toInt32)), (nar .byte ((((p1.toUInt64 >>> ((40 : Int32) &&& 0x3f).toInt64.toUInt64).toInt64).toInt32).toInt8.toInt32))] q 1) (own_c [(nar .byte ((p1.toInt32).toInt8.toInt32)), (nar .byte ((((p1.toUInt64 >>> ((8 : Int32) &&& 0x3f).toInt64.toUInt64).toInt64).toInt32).toInt8.toInt32)), (nar .byte ((((p1.toUInt64 >>> ((16 : Int32) &&& 0x3f).toInt64.toUInt64).toInt64).toInt32).toInt8.toInt32)), (nar .byte ((((p1.toUInt64 >>> ((24 : Int32) &&& 0x3f).toInt64.toUInt64).toInt64).toInt32).toInt8.toInt32)), (nar .byte ((((p1.toUInt64 >>> ((32 : Int32) &&& 0x3f).toInt64.toUInt64).toInt64).toInt32).toInt8.toInt32)), (nar .byte ((((p1.toUInt64 >>> ((40 : Int32) &&& 0x3f).toInt64.toUInt64).toInt64).toInt32).toInt8.toInt32))] q 2) (own_c [(nar .byte ((p1.toInt32).toInt8.toInt32)), (nar .byte ((((p1.toUInt64 >>> ((8 : Int32) &&& 0x3f).toInt64.toUInt64).toInt64).toInt32).toInt8.toInt32)), (nar .byte ((((p1.toUInt64 >>> ((16 : Int32) &&& 0x3f).toInt64.toUInt64).toInt64).toInt32).toInt8.toInt32)), (nar .byte ((((p1.toUInt64 >>> ((24 : Int32) &&& 0x3f).toInt64.toUInt64).toInt64).toInt32).toInt8.toInt32)), (nar .byte ((((p1.toUInt64 >>> ((32 : Int32) &&& 0x3f).toInt64.toUInt64).toInt64).toInt32).toInt8.toInt32)), (nar .byte ((((p1.toUInt64 >>> ((40 : Int32) &&& 0x3f).toInt64.toUInt64).toInt64).toInt32).toInt8.toInt32))] q 3) (to - q)) to 6 fr))] [(.int fr), (.ref aa), (.int (own_wf (fun q => own_st (own_c [(nar .byte ((p1.toInt32).toInt8.toInt32)), (nar .byte ((((p1.toUInt64 >>> ((8 : Int32) &&& 0x3f).toInt64.toUInt64).toInt64).toInt32).toInt8.toInt32)), (nar .byte ((((p1.toUInt64 >>> ((16 : Int32) &&& 0x3f).toInt64.toUInt64).toInt64).toInt32).toInt8.toInt32)), (nar .byte ((((p1.toUInt64 >>> ((24 : Int32) &&& 0x3f).toInt64.toUInt64).toInt64).toInt32).toInt8.toInt32)), (nar .byte ((((p1.toUInt64 >>> ((32 : Int32) &&& 0x3f).toInt64.toUInt64).toInt64).toInt32).toInt8.toInt32)), (nar .byte ((((p1.toUInt64 >>> ((40 : Int32) &&& 0x3f).toInt64.toUInt64).toInt64).toInt32).toInt8.toInt32))] q 0) (own_c [(nar .byte ((p1.toInt32).toInt8.toInt32)), (nar .byte ((((p1.toUInt64 >>> ((8 : Int32) &&& 0x3f).toInt64.toUInt64).toInt64).toInt32).toInt8.toInt32)), (nar .byte ((((p1.toUInt64 >>> ((16 : Int32) &&& 0x3f).toInt64.toUInt64).toInt64).toInt32).toInt8.toInt32)), (nar .byte ((((p1.toUInt64 >>> ((24 : Int32) &&& 0x3f).toInt64.toUInt64).toInt64).toInt32).toInt8.toInt32)), (nar .byte ((((p1.toUInt64 >>> ((32 : Int32) &&& 0x3f).toInt64.toUInt64).toInt64).toInt32).toInt8.toInt32)), (nar .byte ((((p1.toUInt64 >>> ((40 : Int32) &&& 0x3f).toInt64.toUInt64).toInt64).toInt32).toInt8.toInt32))] q 1) (own_c [(nar .byte ((p1.toInt32).toInt8.toInt32)), (nar .byte ((((p1.toUInt64 >>> ((8 : Int32) &&& 0x3f).toInt64.toUInt64).toInt64).toInt32).toInt8.toInt32)), (nar .byte ((((p1.toUInt64 >>> ((16 : Int32) &&& 0x3f).toInt64.toUInt64).toInt64).toInt32).toInt8.toInt32)), (nar .byte ((((p1.toUInt64 >>> ((24 : Int32) &&& 0x3f).toInt64.toUInt64).toInt64).toInt32).toInt8.toInt32)), (nar .byte ((((p1.toUInt64 >>> ((32 : Int32) &&& 0x3f).toInt64.toUInt64).toInt64).toInt32).toInt8.toInt32)), (nar .byte ((((p1.toUInt64 >>> ((40 : Int32) &&& 0x3f).toInt64.toUInt64).toInt64).toInt32).toInt8.toInt32))] q 2) (own_c [(nar .byte ((p1.toInt32).toInt8.toInt32)), (nar .byte ((((p1.toUInt64 >>> ((8 : Int32) &&& 0x3f).toInt64.toUInt64).toInt64).toInt32).toInt8.toInt32)), (nar .byte ((((p1.toUInt64 >>> ((16 : Int32) &&& 0x3f).toInt64.toUInt64).toInt64).toInt32).toInt8.toInt32)), (nar .byte ((((p1.toUInt64 >>> ((24 : Int32) &&& 0x3f).toInt64.toUInt64).toInt64).toInt32).toInt8.toInt32)), (nar .byte ((((p1.toUInt64 >>> ((32 : Int32) &&& 0x3f).toInt64.toUInt64).toInt64).toInt32).toInt8.toInt32)), (nar .byte ((((p1.toUInt64 >>> ((40 : Int32) &&& 0x3f).toInt64.toUInt64).toInt64).toInt32).toInt8.toInt32))] q 3) (to - q)) to 6 fr))])
  refine Rch.go (fun _ q => XS.iload X108.here hx rfl (hb hby at_104) rfl  q) ?_
  show Rch p ev below _ T108 (mkF m 106 #[.val (.long p1), .second, .val (.int p2), .val (.int p3), .val (.ref aa), .val (.int fr), .val (.int to), .val (.int (own_wf (fun q => own_st (own_c [(nar .byte ((p1.toInt32).toInt8.toInt32)), (nar .byte ((((p1.toUInt64 >>> ((8 : Int32) &&& 0x3f).toInt64.toUInt64).toInt64).toInt32).toInt8.toInt32)), (nar .byte ((((p1.toUInt64 >>> ((16 : Int32) &&& 0x3f).toInt64.toUInt64).toInt64).toInt32).toInt8.toInt32)), (nar .byte ((((p1.toUInt64 >>> ((24 : Int32) &&& 0x3f).toInt64.toUInt64).toInt64).toInt32).toInt8.toInt32)), (nar .byte ((((p1.toUInt64 >>> ((32 : Int32) &&& 0x3f).toInt64.toUInt64).toInt64).toInt32).toInt8.toInt32)), (nar .byte ((((p1.toUInt64 >>> ((40 : Int32) &&& 0x3f).toInt64.toUInt64).toInt64).toInt32).toInt8.toInt32))] q 0) (own_c [(nar .byte ((p1.toInt32).toInt8.toInt32)), (nar .byte ((((p1.toUInt64 >>> ((8 : Int32) &&& 0x3f).toInt64.toUInt64).toInt64).toInt32).toInt8.toInt32)), (nar .byte ((((p1.toUInt64 >>> ((16 : Int32) &&& 0x3f).toInt64.toUInt64).toInt64).toInt32).toInt8.toInt32)), (nar .byte ((((p1.toUInt64 >>> ((24 : Int32) &&& 0x3f).toInt64.toUInt64).toInt64).toInt32).toInt8.toInt32)), (nar .byte ((((p1.toUInt64 >>> ((32 : Int32) &&& 0x3f).toInt64.toUInt64).toInt64).toInt32).toInt8.toInt32)), (nar .byte ((((p1.toUInt64 >>> ((40 : Int32) &&& 0x3f).toInt64.toUInt64).toInt64).toInt32).toInt8.toInt32))] q 1) (own_c [(nar .byte ((p1.toInt32).toInt8.toInt32)), (nar .byte ((((p1.toUInt64 >>> ((8 : Int32) &&& 0x3f).toInt64.toUInt64).toInt64).toInt32).toInt8.toInt32)), (nar .byte ((((p1.toUInt64 >>> ((16 : Int32) &&& 0x3f).toInt64.toUInt64).toInt64).toInt32).toInt8.toInt32)), (nar .byte ((((p1.toUInt64 >>> ((24 : Int32) &&& 0x3f).toInt64.toUInt64).toInt64).toInt32).toInt8.toInt32)), (nar .byte ((((p1.toUInt64 >>> ((32 : Int32) &&& 0x3f).toInt64.toUInt64).toInt64).toInt32).toInt8.toInt32)), (nar .byte ((((p1.toUInt64 >>> ((40 : Int32) &&& 0x3f).toInt64.toUInt64).toInt64).toInt32).toInt8.toInt32))] q 2) (own_c [(nar .byte ((p1.toInt32).toInt8.toInt32)), (nar .byte ((((p1.toUInt64 >>> ((8 : Int32) &&& 0x3f).toInt64.toUInt64).toInt64).toInt32).toInt8.toInt32)), (nar .byte ((((p1.toUInt64 >>> ((16 : Int32) &&& 0x3f).toInt64.toUInt64).toInt64).toInt32).toInt8.toInt32)), (nar .byte ((((p1.toUInt64 >>> ((24 : Int32) &&& 0x3f).toInt64.toUInt64).toInt64).toInt32).toInt8.toInt32)), (nar .byte ((((p1.toUInt64 >>> ((32 : Int32) &&& 0x3f).toInt64.toUInt64).toInt64).toInt32).toInt8.toInt32)), (nar .byte ((((p1.toUInt64 >>> ((40 : Int32) &&& 0x3f).toInt64.toUInt64).toInt64).toInt32).toInt8.toInt32))] q 3) (to - q)) to 6 fr))] [(.int to), (.int fr), (.ref aa), (.int (own_wf (fun q => own_st (own_c [(nar .byte ((p1.toInt32).toInt8.toInt32)), (nar .byte ((((p1.toUInt64 >>> ((8 : Int32) &&& 0x3f).toInt64.toUInt64).toInt64).toInt32).toInt8.toInt32)), (nar .byte ((((p1.toUInt64 >>> ((16 : Int32) &&& 0x3f).toInt64.toUInt64).toInt64).toInt32).toInt8.toInt32)), (nar .byte ((((p1.toUInt64 >>> ((24 : Int32) &&& 0x3f).toInt64.toUInt64).toInt64).toInt32).toInt8.toInt32)), (nar .byte ((((p1.toUInt64 >>> ((32 : Int32) &&& 0x3f).toInt64.toUInt64).toInt64).toInt32).toInt8.toInt32)), (nar .byte ((((p1.toUInt64 >>> ((40 : Int32) &&& 0x3f).toInt64.toUInt64).toInt64).toInt32).toInt8.toInt32))] q 0) (own_c [(nar .byte ((p1.toInt32).toInt8.toInt32)), (nar .byte ((((p1.toUInt64 >>> ((8 : Int32) &&& 0x3f).toInt64.toUInt64).toInt64).toInt32).toInt8.toInt32)), (nar .byte ((((p1.toUInt64 >>> ((16 : Int32) &&& 0x3f).toInt64.toUInt64).toInt64).toInt32).toInt8.toInt32)), (nar .byte ((((p1.toUInt64 >>> ((24 : Int32) &&& 0x3f).toInt64.toUInt64).toInt64).toInt32).toInt8.toInt32)), (nar .byte ((((p1.toUInt64 >>> ((32 : Int32) &&& 0x3f).toInt64.toUInt64).toInt64).toInt32).toInt8.toInt32)), (nar .byte ((((p1.toUInt64 >>> ((40 : Int32) &&& 0x3f).toInt64.toUInt64).toInt64).toInt32).toInt8.toInt32))] q 1) (own_c [(nar .byte ((p1.toInt32).toInt8.toInt32)), (nar .byte ((((p1.toUInt64 >>> ((8 : Int32) &&& 0x3f).toInt64.toUInt64).toInt64).toInt32).toInt8.toInt32)), (nar .byte ((((p1.toUInt64 >>> ((16 : Int32) &&& 0x3f).toInt64.toUInt64).toInt64).toInt32).toInt8.toInt32)), (nar .byte ((((p1.toUInt64 >>> ((24 : Int32) &&& 0x3f).toInt64.toUInt64).toInt64).toInt32).toInt8.toInt32)), (nar .byte ((((p1.toUInt64 >>> ((32 : Int32) &&& 0x3f).toInt64.toUInt64).toInt64).toInt32).toInt8.toInt32)), (nar .byte ((((p1.toUInt64 >>> ((40 : Int32) &&& 0x3f).toInt64.toUInt64).toInt64).toInt32).toInt8.toInt32))] q 2) (own_c [(nar .byte ((p1.toInt32).toInt8.toInt32)), (nar .byte ((((p1.toUInt64 >>> ((8 : Int32) &&& 0x3f).toInt64.toUInt64).toInt64).toInt32).toInt8.toInt32)), (nar .byte ((((p1.toUInt64 >>> ((16 : Int32) &&& 0x3f).toInt64.toUInt64).toInt64).toInt32).toInt8.toInt32)), (nar .byte ((((p1.toUInt64 >>> ((24 : Int32) &&& 0x3f).toInt64.toUInt64).toInt64).toInt32).toInt8.toInt32)), (nar .byte ((((p1.toUInt64 >>> ((32 : Int32) &&& 0x3f).toInt64.toUInt64).toInt64).toInt32).toInt8.toInt32)), (nar .byte ((((p1.toUInt64 >>> ((40 : Int32) &&& 0x3f).toInt64.toUInt64).toInt64).toInt32).toInt8.toInt32))] q 3) (to - q)) to 6 fr))])
  obtain ⟨_, _, ⟨T109, L109, k109, n109⟩, -, X109, ⟨Lc109, hQ109, l109, y109, z109⟩, st109⟩ := Jvm.LawKit.callS X108 hx (y := (⟨"com/example/slicewright/slicewright/runtime/Utf8WellFormedUpToPinLaw", "expected", "([BII)I"⟩ : MethodName)) hown (mvT hZ (hw _ (List.mem_of_getElem? (i := 12) rfl))) (mvT hZ (hw _ (List.mem_of_getElem? (i := 13) rfl))) (mvT hZ (hw _ (List.mem_of_getElem? (i := 14) rfl))) (mvT hZ (hw _ (List.mem_of_getElem? (i := 15) rfl))) (by decide) (backOf (W := 1) (rm6 l Z a0 hw [] aa fr to kk_aa [(nar .byte ((p1.toInt32).toInt8.toInt32)), (nar .byte ((((p1.toUInt64 >>> ((8 : Int32) &&& 0x3f).toInt64.toUInt64).toInt64).toInt32).toInt8.toInt32)), (nar .byte ((((p1.toUInt64 >>> ((16 : Int32) &&& 0x3f).toInt64.toUInt64).toInt64).toInt32).toInt8.toInt32)), (nar .byte ((((p1.toUInt64 >>> ((24 : Int32) &&& 0x3f).toInt64.toUInt64).toInt64).toInt32).toInt8.toInt32)), (nar .byte ((((p1.toUInt64 >>> ((32 : Int32) &&& 0x3f).toInt64.toUInt64).toInt64).toInt32).toInt8.toInt32)), (nar .byte ((((p1.toUInt64 >>> ((40 : Int32) &&& 0x3f).toInt64.toUInt64).toInt64).toInt32).toInt8.toInt32))] h107 n0 Z107 V_aa_107 hfr.1 hto.1 hto.2) hZ (hw _ (List.mem_of_getElem? (i := 15) rfl)) (hw _ (List.mem_of_getElem? (i := 14) rfl)) (by decide) (by decide)) (g := (mkF m 106 #[.val (.long p1), .second, .val (.int p2), .val (.int p3), .val (.ref aa), .val (.int fr), .val (.int to), .val (.int (own_wf (fun q => own_st (own_c [(nar .byte ((p1.toInt32).toInt8.toInt32)), (nar .byte ((((p1.toUInt64 >>> ((8 : Int32) &&& 0x3f).toInt64.toUInt64).toInt64).toInt32).toInt8.toInt32)), (nar .byte ((((p1.toUInt64 >>> ((16 : Int32) &&& 0x3f).toInt64.toUInt64).toInt64).toInt32).toInt8.toInt32)), (nar .byte ((((p1.toUInt64 >>> ((24 : Int32) &&& 0x3f).toInt64.toUInt64).toInt64).toInt32).toInt8.toInt32)), (nar .byte ((((p1.toUInt64 >>> ((32 : Int32) &&& 0x3f).toInt64.toUInt64).toInt64).toInt32).toInt8.toInt32)), (nar .byte ((((p1.toUInt64 >>> ((40 : Int32) &&& 0x3f).toInt64.toUInt64).toInt64).toInt32).toInt8.toInt32))] q 0) (own_c [(nar .byte ((p1.toInt32).toInt8.toInt32)), (nar .byte ((((p1.toUInt64 >>> ((8 : Int32) &&& 0x3f).toInt64.toUInt64).toInt64).toInt32).toInt8.toInt32)), (nar .byte ((((p1.toUInt64 >>> ((16 : Int32) &&& 0x3f).toInt64.toUInt64).toInt64).toInt32).toInt8.toInt32)), (nar .byte ((((p1.toUInt64 >>> ((24 : Int32) &&& 0x3f).toInt64.toUInt64).toInt64).toInt32).toInt8.toInt32)), (nar .byte ((((p1.toUInt64 >>> ((32 : Int32) &&& 0x3f).toInt64.toUInt64).toInt64).toInt32).toInt8.toInt32)), (nar .byte ((((p1.toUInt64 >>> ((40 : Int32) &&& 0x3f).toInt64.toUInt64).toInt64).toInt32).toInt8.toInt32))] q 1) (own_c [(nar .byte ((p1.toInt32).toInt8.toInt32)), (nar .byte ((((p1.toUInt64 >>> ((8 : Int32) &&& 0x3f).toInt64.toUInt64).toInt64).toInt32).toInt8.toInt32)), (nar .byte ((((p1.toUInt64 >>> ((16 : Int32) &&& 0x3f).toInt64.toUInt64).toInt64).toInt32).toInt8.toInt32)), (nar .byte ((((p1.toUInt64 >>> ((24 : Int32) &&& 0x3f).toInt64.toUInt64).toInt64).toInt32).toInt8.toInt32)), (nar .byte ((((p1.toUInt64 >>> ((32 : Int32) &&& 0x3f).toInt64.toUInt64).toInt64).toInt32).toInt8.toInt32)), (nar .byte ((((p1.toUInt64 >>> ((40 : Int32) &&& 0x3f).toInt64.toUInt64).toInt64).toInt32).toInt8.toInt32))] q 2) (own_c [(nar .byte ((p1.toInt32).toInt8.toInt32)), (nar .byte ((((p1.toUInt64 >>> ((8 : Int32) &&& 0x3f).toInt64.toUInt64).toInt64).toInt32).toInt8.toInt32)), (nar .byte ((((p1.toUInt64 >>> ((16 : Int32) &&& 0x3f).toInt64.toUInt64).toInt64).toInt32).toInt8.toInt32)), (nar .byte ((((p1.toUInt64 >>> ((24 : Int32) &&& 0x3f).toInt64.toUInt64).toInt64).toInt32).toInt8.toInt32)), (nar .byte ((((p1.toUInt64 >>> ((32 : Int32) &&& 0x3f).toInt64.toUInt64).toInt64).toInt32).toInt8.toInt32)), (nar .byte ((((p1.toUInt64 >>> ((40 : Int32) &&& 0x3f).toInt64.toUInt64).toInt64).toInt32).toInt8.toInt32))] q 3) (to - q)) to 6 fr))] [(.int to), (.int fr), (.ref aa), (.int (own_wf (fun q => own_st (own_c [(nar .byte ((p1.toInt32).toInt8.toInt32)), (nar .byte ((((p1.toUInt64 >>> ((8 : Int32) &&& 0x3f).toInt64.toUInt64).toInt64).toInt32).toInt8.toInt32)), (nar .byte ((((p1.toUInt64 >>> ((16 : Int32) &&& 0x3f).toInt64.toUInt64).toInt64).toInt32).toInt8.toInt32)), (nar .byte ((((p1.toUInt64 >>> ((24 : Int32) &&& 0x3f).toInt64.toUInt64).toInt64).toInt32).toInt8.toInt32)), (nar .byte ((((p1.toUInt64 >>> ((32 : Int32) &&& 0x3f).toInt64.toUInt64).toInt64).toInt32).toInt8.toInt32)), (nar .byte ((((p1.toUInt64 >>> ((40 : Int32) &&& 0x3f).toInt64.toUInt64).toInt64).toInt32).toInt8.toInt32))] q 0) (own_c [(nar .byte ((p1.toInt32).toInt8.toInt32)), (nar .byte ((((p1.toUInt64 >>> ((8 : Int32) &&& 0x3f).toInt64.toUInt64).toInt64).toInt32).toInt8.toInt32)), (nar .byte ((((p1.toUInt64 >>> ((16 : Int32) &&& 0x3f).toInt64.toUInt64).toInt64).toInt32).toInt8.toInt32)), (nar .byte ((((p1.toUInt64 >>> ((24 : Int32) &&& 0x3f).toInt64.toUInt64).toInt64).toInt32).toInt8.toInt32)), (nar .byte ((((p1.toUInt64 >>> ((32 : Int32) &&& 0x3f).toInt64.toUInt64).toInt64).toInt32).toInt8.toInt32)), (nar .byte ((((p1.toUInt64 >>> ((40 : Int32) &&& 0x3f).toInt64.toUInt64).toInt64).toInt32).toInt8.toInt32))] q 1) (own_c [(nar .byte ((p1.toInt32).toInt8.toInt32)), (nar .byte ((((p1.toUInt64 >>> ((8 : Int32) &&& 0x3f).toInt64.toUInt64).toInt64).toInt32).toInt8.toInt32)), (nar .byte ((((p1.toUInt64 >>> ((16 : Int32) &&& 0x3f).toInt64.toUInt64).toInt64).toInt32).toInt8.toInt32)), (nar .byte ((((p1.toUInt64 >>> ((24 : Int32) &&& 0x3f).toInt64.toUInt64).toInt64).toInt32).toInt8.toInt32)), (nar .byte ((((p1.toUInt64 >>> ((32 : Int32) &&& 0x3f).toInt64.toUInt64).toInt64).toInt32).toInt8.toInt32)), (nar .byte ((((p1.toUInt64 >>> ((40 : Int32) &&& 0x3f).toInt64.toUInt64).toInt64).toInt32).toInt8.toInt32))] q 2) (own_c [(nar .byte ((p1.toInt32).toInt8.toInt32)), (nar .byte ((((p1.toUInt64 >>> ((8 : Int32) &&& 0x3f).toInt64.toUInt64).toInt64).toInt32).toInt8.toInt32)), (nar .byte ((((p1.toUInt64 >>> ((16 : Int32) &&& 0x3f).toInt64.toUInt64).toInt64).toInt32).toInt8.toInt32)), (nar .byte ((((p1.toUInt64 >>> ((24 : Int32) &&& 0x3f).toInt64.toUInt64).toInt64).toInt32).toInt8.toInt32)), (nar .byte ((((p1.toUInt64 >>> ((32 : Int32) &&& 0x3f).toInt64.toUInt64).toInt64).toInt32).toInt8.toInt32)), (nar .byte ((((p1.toUInt64 >>> ((40 : Int32) &&& 0x3f).toInt64.toUInt64).toInt64).toInt32).toInt8.toInt32))] q 3) (to - q)) to 6 fr))])) rfl (by rw [hml]; rfl) (argsL := [(.ref aa), (.int fr), (.int to)]) (rest := [(.int (own_wf (fun q => own_st (own_c [(nar .byte ((p1.toInt32).toInt8.toInt32)), (nar .byte ((((p1.toUInt64 >>> ((8 : Int32) &&& 0x3f).toInt64.toUInt64).toInt64).toInt32).toInt8.toInt32)), (nar .byte ((((p1.toUInt64 >>> ((16 : Int32) &&& 0x3f).toInt64.toUInt64).toInt64).toInt32).toInt8.toInt32)), (nar .byte ((((p1.toUInt64 >>> ((24 : Int32) &&& 0x3f).toInt64.toUInt64).toInt64).toInt32).toInt8.toInt32)), (nar .byte ((((p1.toUInt64 >>> ((32 : Int32) &&& 0x3f).toInt64.toUInt64).toInt64).toInt32).toInt8.toInt32)), (nar .byte ((((p1.toUInt64 >>> ((40 : Int32) &&& 0x3f).toInt64.toUInt64).toInt64).toInt32).toInt8.toInt32))] q 0) (own_c [(nar .byte ((p1.toInt32).toInt8.toInt32)), (nar .byte ((((p1.toUInt64 >>> ((8 : Int32) &&& 0x3f).toInt64.toUInt64).toInt64).toInt32).toInt8.toInt32)), (nar .byte ((((p1.toUInt64 >>> ((16 : Int32) &&& 0x3f).toInt64.toUInt64).toInt64).toInt32).toInt8.toInt32)), (nar .byte ((((p1.toUInt64 >>> ((24 : Int32) &&& 0x3f).toInt64.toUInt64).toInt64).toInt32).toInt8.toInt32)), (nar .byte ((((p1.toUInt64 >>> ((32 : Int32) &&& 0x3f).toInt64.toUInt64).toInt64).toInt32).toInt8.toInt32)), (nar .byte ((((p1.toUInt64 >>> ((40 : Int32) &&& 0x3f).toInt64.toUInt64).toInt64).toInt32).toInt8.toInt32))] q 1) (own_c [(nar .byte ((p1.toInt32).toInt8.toInt32)), (nar .byte ((((p1.toUInt64 >>> ((8 : Int32) &&& 0x3f).toInt64.toUInt64).toInt64).toInt32).toInt8.toInt32)), (nar .byte ((((p1.toUInt64 >>> ((16 : Int32) &&& 0x3f).toInt64.toUInt64).toInt64).toInt32).toInt8.toInt32)), (nar .byte ((((p1.toUInt64 >>> ((24 : Int32) &&& 0x3f).toInt64.toUInt64).toInt64).toInt32).toInt8.toInt32)), (nar .byte ((((p1.toUInt64 >>> ((32 : Int32) &&& 0x3f).toInt64.toUInt64).toInt64).toInt32).toInt8.toInt32)), (nar .byte ((((p1.toUInt64 >>> ((40 : Int32) &&& 0x3f).toInt64.toUInt64).toInt64).toInt32).toInt8.toInt32))] q 2) (own_c [(nar .byte ((p1.toInt32).toInt8.toInt32)), (nar .byte ((((p1.toUInt64 >>> ((8 : Int32) &&& 0x3f).toInt64.toUInt64).toInt64).toInt32).toInt8.toInt32)), (nar .byte ((((p1.toUInt64 >>> ((16 : Int32) &&& 0x3f).toInt64.toUInt64).toInt64).toInt32).toInt8.toInt32)), (nar .byte ((((p1.toUInt64 >>> ((24 : Int32) &&& 0x3f).toInt64.toUInt64).toInt64).toInt32).toInt8.toInt32)), (nar .byte ((((p1.toUInt64 >>> ((32 : Int32) &&& 0x3f).toInt64.toUInt64).toInt64).toInt32).toInt8.toInt32)), (nar .byte ((((p1.toUInt64 >>> ((40 : Int32) &&& 0x3f).toInt64.toUInt64).toInt64).toInt32).toInt8.toInt32))] q 3) (to - q)) to 6 fr))]) (lenOf own_pd3 rfl) rfl (by show 2 * 0 + _ ≤ _; exact Nat.le_of_eq rfl) (hb hby at_106) (fun _ _ => ⟨rfl, e108, (by decide : 1 + 0 ≤ _), (by decide : 6 + 0 ≤ _)⟩)
  dsimp only [Pt.U, Pt.locs, Pt.cells, Pt.slots] at X109 l109 y109 z109 st109 hQ109
  subst l109 y109 z109
  obtain ⟨rfl, Nc, ec⟩ := hQ109
  refine Rch.go st109 ?_
  show Rch p ev below _ T109 (mkF m 109 #[.val (.long p1), .second, .val (.int p2), .val (.int p3), .val (.ref aa), .val (.int fr), .val (.int to), .val (.int (own_wf (fun q => own_st (own_c [(nar .byte ((p1.toInt32).toInt8.toInt32)), (nar .byte ((((p1.toUInt64 >>> ((8 : Int32) &&& 0x3f).toInt64.toUInt64).toInt64).toInt32).toInt8.toInt32)), (nar .byte ((((p1.toUInt64 >>> ((16 : Int32) &&& 0x3f).toInt64.toUInt64).toInt64).toInt32).toInt8.toInt32)), (nar .byte ((((p1.toUInt64 >>> ((24 : Int32) &&& 0x3f).toInt64.toUInt64).toInt64).toInt32).toInt8.toInt32)), (nar .byte ((((p1.toUInt64 >>> ((32 : Int32) &&& 0x3f).toInt64.toUInt64).toInt64).toInt32).toInt8.toInt32)), (nar .byte ((((p1.toUInt64 >>> ((40 : Int32) &&& 0x3f).toInt64.toUInt64).toInt64).toInt32).toInt8.toInt32))] q 0) (own_c [(nar .byte ((p1.toInt32).toInt8.toInt32)), (nar .byte ((((p1.toUInt64 >>> ((8 : Int32) &&& 0x3f).toInt64.toUInt64).toInt64).toInt32).toInt8.toInt32)), (nar .byte ((((p1.toUInt64 >>> ((16 : Int32) &&& 0x3f).toInt64.toUInt64).toInt64).toInt32).toInt8.toInt32)), (nar .byte ((((p1.toUInt64 >>> ((24 : Int32) &&& 0x3f).toInt64.toUInt64).toInt64).toInt32).toInt8.toInt32)), (nar .byte ((((p1.toUInt64 >>> ((32 : Int32) &&& 0x3f).toInt64.toUInt64).toInt64).toInt32).toInt8.toInt32)), (nar .byte ((((p1.toUInt64 >>> ((40 : Int32) &&& 0x3f).toInt64.toUInt64).toInt64).toInt32).toInt8.toInt32))] q 1) (own_c [(nar .byte ((p1.toInt32).toInt8.toInt32)), (nar .byte ((((p1.toUInt64 >>> ((8 : Int32) &&& 0x3f).toInt64.toUInt64).toInt64).toInt32).toInt8.toInt32)), (nar .byte ((((p1.toUInt64 >>> ((16 : Int32) &&& 0x3f).toInt64.toUInt64).toInt64).toInt32).toInt8.toInt32)), (nar .byte ((((p1.toUInt64 >>> ((24 : Int32) &&& 0x3f).toInt64.toUInt64).toInt64).toInt32).toInt8.toInt32)), (nar .byte ((((p1.toUInt64 >>> ((32 : Int32) &&& 0x3f).toInt64.toUInt64).toInt64).toInt32).toInt8.toInt32)), (nar .byte ((((p1.toUInt64 >>> ((40 : Int32) &&& 0x3f).toInt64.toUInt64).toInt64).toInt32).toInt8.toInt32))] q 2) (own_c [(nar .byte ((p1.toInt32).toInt8.toInt32)), (nar .byte ((((p1.toUInt64 >>> ((8 : Int32) &&& 0x3f).toInt64.toUInt64).toInt64).toInt32).toInt8.toInt32)), (nar .byte ((((p1.toUInt64 >>> ((16 : Int32) &&& 0x3f).toInt64.toUInt64).toInt64).toInt32).toInt8.toInt32)), (nar .byte ((((p1.toUInt64 >>> ((24 : Int32) &&& 0x3f).toInt64.toUInt64).toInt64).toInt32).toInt8.toInt32)), (nar .byte ((((p1.toUInt64 >>> ((32 : Int32) &&& 0x3f).toInt64.toUInt64).toInt64).toInt32).toInt8.toInt32)), (nar .byte ((((p1.toUInt64 >>> ((40 : Int32) &&& 0x3f).toInt64.toUInt64).toInt64).toInt32).toInt8.toInt32))] q 3) (to - q)) to 6 fr))] [(.int (own_wf (fun q => own_sq (own_c [(nar .byte ((p1.toInt32).toInt8.toInt32)), (nar .byte ((((p1.toUInt64 >>> ((8 : Int32) &&& 0x3f).toInt64.toUInt64).toInt64).toInt32).toInt8.toInt32)), (nar .byte ((((p1.toUInt64 >>> ((16 : Int32) &&& 0x3f).toInt64.toUInt64).toInt64).toInt32).toInt8.toInt32)), (nar .byte ((((p1.toUInt64 >>> ((24 : Int32) &&& 0x3f).toInt64.toUInt64).toInt64).toInt32).toInt8.toInt32)), (nar .byte ((((p1.toUInt64 >>> ((32 : Int32) &&& 0x3f).toInt64.toUInt64).toInt64).toInt32).toInt8.toInt32)), (nar .byte ((((p1.toUInt64 >>> ((40 : Int32) &&& 0x3f).toInt64.toUInt64).toInt64).toInt32).toInt8.toInt32))] q 0) (own_c [(nar .byte ((p1.toInt32).toInt8.toInt32)), (nar .byte ((((p1.toUInt64 >>> ((8 : Int32) &&& 0x3f).toInt64.toUInt64).toInt64).toInt32).toInt8.toInt32)), (nar .byte ((((p1.toUInt64 >>> ((16 : Int32) &&& 0x3f).toInt64.toUInt64).toInt64).toInt32).toInt8.toInt32)), (nar .byte ((((p1.toUInt64 >>> ((24 : Int32) &&& 0x3f).toInt64.toUInt64).toInt64).toInt32).toInt8.toInt32)), (nar .byte ((((p1.toUInt64 >>> ((32 : Int32) &&& 0x3f).toInt64.toUInt64).toInt64).toInt32).toInt8.toInt32)), (nar .byte ((((p1.toUInt64 >>> ((40 : Int32) &&& 0x3f).toInt64.toUInt64).toInt64).toInt32).toInt8.toInt32))] q 1) (own_c [(nar .byte ((p1.toInt32).toInt8.toInt32)), (nar .byte ((((p1.toUInt64 >>> ((8 : Int32) &&& 0x3f).toInt64.toUInt64).toInt64).toInt32).toInt8.toInt32)), (nar .byte ((((p1.toUInt64 >>> ((16 : Int32) &&& 0x3f).toInt64.toUInt64).toInt64).toInt32).toInt8.toInt32)), (nar .byte ((((p1.toUInt64 >>> ((24 : Int32) &&& 0x3f).toInt64.toUInt64).toInt64).toInt32).toInt8.toInt32)), (nar .byte ((((p1.toUInt64 >>> ((32 : Int32) &&& 0x3f).toInt64.toUInt64).toInt64).toInt32).toInt8.toInt32)), (nar .byte ((((p1.toUInt64 >>> ((40 : Int32) &&& 0x3f).toInt64.toUInt64).toInt64).toInt32).toInt8.toInt32))] q 2) (own_c [(nar .byte ((p1.toInt32).toInt8.toInt32)), (nar .byte ((((p1.toUInt64 >>> ((8 : Int32) &&& 0x3f).toInt64.toUInt64).toInt64).toInt32).toInt8.toInt32)), (nar .byte ((((p1.toUInt64 >>> ((16 : Int32) &&& 0x3f).toInt64.toUInt64).toInt64).toInt32).toInt8.toInt32)), (nar .byte ((((p1.toUInt64 >>> ((24 : Int32) &&& 0x3f).toInt64.toUInt64).toInt64).toInt32).toInt8.toInt32)), (nar .byte ((((p1.toUInt64 >>> ((32 : Int32) &&& 0x3f).toInt64.toUInt64).toInt64).toInt32).toInt8.toInt32)), (nar .byte ((((p1.toUInt64 >>> ((40 : Int32) &&& 0x3f).toInt64.toUInt64).toInt64).toInt32).toInt8.toInt32))] q 3) (to - q)) to 6 fr)), (.int (own_wf (fun q => own_st (own_c [(nar .byte ((p1.toInt32).toInt8.toInt32)), (nar .byte ((((p1.toUInt64 >>> ((8 : Int32) &&& 0x3f).toInt64.toUInt64).toInt64).toInt32).toInt8.toInt32)), (nar .byte ((((p1.toUInt64 >>> ((16 : Int32) &&& 0x3f).toInt64.toUInt64).toInt64).toInt32).toInt8.toInt32)), (nar .byte ((((p1.toUInt64 >>> ((24 : Int32) &&& 0x3f).toInt64.toUInt64).toInt64).toInt32).toInt8.toInt32)), (nar .byte ((((p1.toUInt64 >>> ((32 : Int32) &&& 0x3f).toInt64.toUInt64).toInt64).toInt32).toInt8.toInt32)), (nar .byte ((((p1.toUInt64 >>> ((40 : Int32) &&& 0x3f).toInt64.toUInt64).toInt64).toInt32).toInt8.toInt32))] q 0) (own_c [(nar .byte ((p1.toInt32).toInt8.toInt32)), (nar .byte ((((p1.toUInt64 >>> ((8 : Int32) &&& 0x3f).toInt64.toUInt64).toInt64).toInt32).toInt8.toInt32)), (nar .byte ((((p1.toUInt64 >>> ((16 : Int32) &&& 0x3f).toInt64.toUInt64).toInt64).toInt32).toInt8.toInt32)), (nar .byte ((((p1.toUInt64 >>> ((24 : Int32) &&& 0x3f).toInt64.toUInt64).toInt64).toInt32).toInt8.toInt32)), (nar .byte ((((p1.toUInt64 >>> ((32 : Int32) &&& 0x3f).toInt64.toUInt64).toInt64).toInt32).toInt8.toInt32)), (nar .byte ((((p1.toUInt64 >>> ((40 : Int32) &&& 0x3f).toInt64.toUInt64).toInt64).toInt32).toInt8.toInt32))] q 1) (own_c [(nar .byte ((p1.toInt32).toInt8.toInt32)), (nar .byte ((((p1.toUInt64 >>> ((8 : Int32) &&& 0x3f).toInt64.toUInt64).toInt64).toInt32).toInt8.toInt32)), (nar .byte ((((p1.toUInt64 >>> ((16 : Int32) &&& 0x3f).toInt64.toUInt64).toInt64).toInt32).toInt8.toInt32)), (nar .byte ((((p1.toUInt64 >>> ((24 : Int32) &&& 0x3f).toInt64.toUInt64).toInt64).toInt32).toInt8.toInt32)), (nar .byte ((((p1.toUInt64 >>> ((32 : Int32) &&& 0x3f).toInt64.toUInt64).toInt64).toInt32).toInt8.toInt32)), (nar .byte ((((p1.toUInt64 >>> ((40 : Int32) &&& 0x3f).toInt64.toUInt64).toInt64).toInt32).toInt8.toInt32))] q 2) (own_c [(nar .byte ((p1.toInt32).toInt8.toInt32)), (nar .byte ((((p1.toUInt64 >>> ((8 : Int32) &&& 0x3f).toInt64.toUInt64).toInt64).toInt32).toInt8.toInt32)), (nar .byte ((((p1.toUInt64 >>> ((16 : Int32) &&& 0x3f).toInt64.toUInt64).toInt64).toInt32).toInt8.toInt32)), (nar .byte ((((p1.toUInt64 >>> ((24 : Int32) &&& 0x3f).toInt64.toUInt64).toInt64).toInt32).toInt8.toInt32)), (nar .byte ((((p1.toUInt64 >>> ((32 : Int32) &&& 0x3f).toInt64.toUInt64).toInt64).toInt32).toInt8.toInt32)), (nar .byte ((((p1.toUInt64 >>> ((40 : Int32) &&& 0x3f).toInt64.toUInt64).toInt64).toInt32).toInt8.toInt32))] q 3) (to - q)) to 6 fr))])
  have N109 := Fr.app N108 Nc
  have e109 := ec
  refine Rch.go (fun _ q => XS.icmpNo X109.here hx rfl (hb hby at_109) rfl (teq (own_same [(nar .byte ((p1.toInt32).toInt8.toInt32)), (nar .byte ((((p1.toUInt64 >>> ((8 : Int32) &&& 0x3f).toInt64.toUInt64).toInt64).toInt32).toInt8.toInt32)), (nar .byte ((((p1.toUInt64 >>> ((16 : Int32) &&& 0x3f).toInt64.toUInt64).toInt64).toInt32).toInt8.toInt32)), (nar .byte ((((p1.toUInt64 >>> ((24 : Int32) &&& 0x3f).toInt64.toUInt64).toInt64).toInt32).toInt8.toInt32)), (nar .byte ((((p1.toUInt64 >>> ((32 : Int32) &&& 0x3f).toInt64.toUInt64).toInt64).toInt32).toInt8.toInt32)), (nar .byte ((((p1.toUInt64 >>> ((40 : Int32) &&& 0x3f).toInt64.toUInt64).toInt64).toInt32).toInt8.toInt32))] fr to hfr.1 hto.1 hto.2)).2 q) ?_
  show Rch p ev below _ T109 (mkF m 112 #[.val (.long p1), .second, .val (.int p2), .val (.int p3), .val (.ref aa), .val (.int fr), .val (.int to), .val (.int (own_wf (fun q => own_st (own_c [(nar .byte ((p1.toInt32).toInt8.toInt32)), (nar .byte ((((p1.toUInt64 >>> ((8 : Int32) &&& 0x3f).toInt64.toUInt64).toInt64).toInt32).toInt8.toInt32)), (nar .byte ((((p1.toUInt64 >>> ((16 : Int32) &&& 0x3f).toInt64.toUInt64).toInt64).toInt32).toInt8.toInt32)), (nar .byte ((((p1.toUInt64 >>> ((24 : Int32) &&& 0x3f).toInt64.toUInt64).toInt64).toInt32).toInt8.toInt32)), (nar .byte ((((p1.toUInt64 >>> ((32 : Int32) &&& 0x3f).toInt64.toUInt64).toInt64).toInt32).toInt8.toInt32)), (nar .byte ((((p1.toUInt64 >>> ((40 : Int32) &&& 0x3f).toInt64.toUInt64).toInt64).toInt32).toInt8.toInt32))] q 0) (own_c [(nar .byte ((p1.toInt32).toInt8.toInt32)), (nar .byte ((((p1.toUInt64 >>> ((8 : Int32) &&& 0x3f).toInt64.toUInt64).toInt64).toInt32).toInt8.toInt32)), (nar .byte ((((p1.toUInt64 >>> ((16 : Int32) &&& 0x3f).toInt64.toUInt64).toInt64).toInt32).toInt8.toInt32)), (nar .byte ((((p1.toUInt64 >>> ((24 : Int32) &&& 0x3f).toInt64.toUInt64).toInt64).toInt32).toInt8.toInt32)), (nar .byte ((((p1.toUInt64 >>> ((32 : Int32) &&& 0x3f).toInt64.toUInt64).toInt64).toInt32).toInt8.toInt32)), (nar .byte ((((p1.toUInt64 >>> ((40 : Int32) &&& 0x3f).toInt64.toUInt64).toInt64).toInt32).toInt8.toInt32))] q 1) (own_c [(nar .byte ((p1.toInt32).toInt8.toInt32)), (nar .byte ((((p1.toUInt64 >>> ((8 : Int32) &&& 0x3f).toInt64.toUInt64).toInt64).toInt32).toInt8.toInt32)), (nar .byte ((((p1.toUInt64 >>> ((16 : Int32) &&& 0x3f).toInt64.toUInt64).toInt64).toInt32).toInt8.toInt32)), (nar .byte ((((p1.toUInt64 >>> ((24 : Int32) &&& 0x3f).toInt64.toUInt64).toInt64).toInt32).toInt8.toInt32)), (nar .byte ((((p1.toUInt64 >>> ((32 : Int32) &&& 0x3f).toInt64.toUInt64).toInt64).toInt32).toInt8.toInt32)), (nar .byte ((((p1.toUInt64 >>> ((40 : Int32) &&& 0x3f).toInt64.toUInt64).toInt64).toInt32).toInt8.toInt32))] q 2) (own_c [(nar .byte ((p1.toInt32).toInt8.toInt32)), (nar .byte ((((p1.toUInt64 >>> ((8 : Int32) &&& 0x3f).toInt64.toUInt64).toInt64).toInt32).toInt8.toInt32)), (nar .byte ((((p1.toUInt64 >>> ((16 : Int32) &&& 0x3f).toInt64.toUInt64).toInt64).toInt32).toInt8.toInt32)), (nar .byte ((((p1.toUInt64 >>> ((24 : Int32) &&& 0x3f).toInt64.toUInt64).toInt64).toInt32).toInt8.toInt32)), (nar .byte ((((p1.toUInt64 >>> ((32 : Int32) &&& 0x3f).toInt64.toUInt64).toInt64).toInt32).toInt8.toInt32)), (nar .byte ((((p1.toUInt64 >>> ((40 : Int32) &&& 0x3f).toInt64.toUInt64).toInt64).toInt32).toInt8.toInt32))] q 3) (to - q)) to 6 fr))] [])
  refine Rch.go (fun _ q => XS.iconst X109.here hx rfl (hb hby at_112) q) ?_
  show Rch p ev below _ T109 (mkF m 113 #[.val (.long p1), .second, .val (.int p2), .val (.int p3), .val (.ref aa), .val (.int fr), .val (.int to), .val (.int (own_wf (fun q => own_st (own_c [(nar .byte ((p1.toInt32).toInt8.toInt32)), (nar .byte ((((p1.toUInt64 >>> ((8 : Int32) &&& 0x3f).toInt64.toUInt64).toInt64).toInt32).toInt8.toInt32)), (nar .byte ((((p1.toUInt64 >>> ((16 : Int32) &&& 0x3f).toInt64.toUInt64).toInt64).toInt32).toInt8.toInt32)), (nar .byte ((((p1.toUInt64 >>> ((24 : Int32) &&& 0x3f).toInt64.toUInt64).toInt64).toInt32).toInt8.toInt32)), (nar .byte ((((p1.toUInt64 >>> ((32 : Int32) &&& 0x3f).toInt64.toUInt64).toInt64).toInt32).toInt8.toInt32)), (nar .byte ((((p1.toUInt64 >>> ((40 : Int32) &&& 0x3f).toInt64.toUInt64).toInt64).toInt32).toInt8.toInt32))] q 0) (own_c [(nar .byte ((p1.toInt32).toInt8.toInt32)), (nar .byte ((((p1.toUInt64 >>> ((8 : Int32) &&& 0x3f).toInt64.toUInt64).toInt64).toInt32).toInt8.toInt32)), (nar .byte ((((p1.toUInt64 >>> ((16 : Int32) &&& 0x3f).toInt64.toUInt64).toInt64).toInt32).toInt8.toInt32)), (nar .byte ((((p1.toUInt64 >>> ((24 : Int32) &&& 0x3f).toInt64.toUInt64).toInt64).toInt32).toInt8.toInt32)), (nar .byte ((((p1.toUInt64 >>> ((32 : Int32) &&& 0x3f).toInt64.toUInt64).toInt64).toInt32).toInt8.toInt32)), (nar .byte ((((p1.toUInt64 >>> ((40 : Int32) &&& 0x3f).toInt64.toUInt64).toInt64).toInt32).toInt8.toInt32))] q 1) (own_c [(nar .byte ((p1.toInt32).toInt8.toInt32)), (nar .byte ((((p1.toUInt64 >>> ((8 : Int32) &&& 0x3f).toInt64.toUInt64).toInt64).toInt32).toInt8.toInt32)), (nar .byte ((((p1.toUInt64 >>> ((16 : Int32) &&& 0x3f).toInt64.toUInt64).toInt64).toInt32).toInt8.toInt32)), (nar .byte ((((p1.toUInt64 >>> ((24 : Int32) &&& 0x3f).toInt64.toUInt64).toInt64).toInt32).toInt8.toInt32)), (nar .byte ((((p1.toUInt64 >>> ((32 : Int32) &&& 0x3f).toInt64.toUInt64).toInt64).toInt32).toInt8.toInt32)), (nar .byte ((((p1.toUInt64 >>> ((40 : Int32) &&& 0x3f).toInt64.toUInt64).toInt64).toInt32).toInt8.toInt32))] q 2) (own_c [(nar .byte ((p1.toInt32).toInt8.toInt32)), (nar .byte ((((p1.toUInt64 >>> ((8 : Int32) &&& 0x3f).toInt64.toUInt64).toInt64).toInt32).toInt8.toInt32)), (nar .byte ((((p1.toUInt64 >>> ((16 : Int32) &&& 0x3f).toInt64.toUInt64).toInt64).toInt32).toInt8.toInt32)), (nar .byte ((((p1.toUInt64 >>> ((24 : Int32) &&& 0x3f).toInt64.toUInt64).toInt64).toInt32).toInt8.toInt32)), (nar .byte ((((p1.toUInt64 >>> ((32 : Int32) &&& 0x3f).toInt64.toUInt64).toInt64).toInt32).toInt8.toInt32)), (nar .byte ((((p1.toUInt64 >>> ((40 : Int32) &&& 0x3f).toInt64.toUInt64).toInt64).toInt32).toInt8.toInt32))] q 3) (to - q)) to 6 fr))] [(.int (1 : Int32))])
  refine Rch.go (fun _ q => XS.goto X109.here hx rfl (pc0 := 113) (pc' := 117) rfl (hb hby at_113) (by decide) (by decide) q) ?_
  show Rch p ev below _ T109 (mkF m 117 #[.val (.long p1), .second, .val (.int p2), .val (.int p3), .val (.ref aa), .val (.int fr), .val (.int to), .val (.int (own_wf (fun q => own_st (own_c [(nar .byte ((p1.toInt32).toInt8.toInt32)), (nar .byte ((((p1.toUInt64 >>> ((8 : Int32) &&& 0x3f).toInt64.toUInt64).toInt64).toInt32).toInt8.toInt32)), (nar .byte ((((p1.toUInt64 >>> ((16 : Int32) &&& 0x3f).toInt64.toUInt64).toInt64).toInt32).toInt8.toInt32)), (nar .byte ((((p1.toUInt64 >>> ((24 : Int32) &&& 0x3f).toInt64.toUInt64).toInt64).toInt32).toInt8.toInt32)), (nar .byte ((((p1.toUInt64 >>> ((32 : Int32) &&& 0x3f).toInt64.toUInt64).toInt64).toInt32).toInt8.toInt32)), (nar .byte ((((p1.toUInt64 >>> ((40 : Int32) &&& 0x3f).toInt64.toUInt64).toInt64).toInt32).toInt8.toInt32))] q 0) (own_c [(nar .byte ((p1.toInt32).toInt8.toInt32)), (nar .byte ((((p1.toUInt64 >>> ((8 : Int32) &&& 0x3f).toInt64.toUInt64).toInt64).toInt32).toInt8.toInt32)), (nar .byte ((((p1.toUInt64 >>> ((16 : Int32) &&& 0x3f).toInt64.toUInt64).toInt64).toInt32).toInt8.toInt32)), (nar .byte ((((p1.toUInt64 >>> ((24 : Int32) &&& 0x3f).toInt64.toUInt64).toInt64).toInt32).toInt8.toInt32)), (nar .byte ((((p1.toUInt64 >>> ((32 : Int32) &&& 0x3f).toInt64.toUInt64).toInt64).toInt32).toInt8.toInt32)), (nar .byte ((((p1.toUInt64 >>> ((40 : Int32) &&& 0x3f).toInt64.toUInt64).toInt64).toInt32).toInt8.toInt32))] q 1) (own_c [(nar .byte ((p1.toInt32).toInt8.toInt32)), (nar .byte ((((p1.toUInt64 >>> ((8 : Int32) &&& 0x3f).toInt64.toUInt64).toInt64).toInt32).toInt8.toInt32)), (nar .byte ((((p1.toUInt64 >>> ((16 : Int32) &&& 0x3f).toInt64.toUInt64).toInt64).toInt32).toInt8.toInt32)), (nar .byte ((((p1.toUInt64 >>> ((24 : Int32) &&& 0x3f).toInt64.toUInt64).toInt64).toInt32).toInt8.toInt32)), (nar .byte ((((p1.toUInt64 >>> ((32 : Int32) &&& 0x3f).toInt64.toUInt64).toInt64).toInt32).toInt8.toInt32)), (nar .byte ((((p1.toUInt64 >>> ((40 : Int32) &&& 0x3f).toInt64.toUInt64).toInt64).toInt32).toInt8.toInt32))] q 2) (own_c [(nar .byte ((p1.toInt32).toInt8.toInt32)), (nar .byte ((((p1.toUInt64 >>> ((8 : Int32) &&& 0x3f).toInt64.toUInt64).toInt64).toInt32).toInt8.toInt32)), (nar .byte ((((p1.toUInt64 >>> ((16 : Int32) &&& 0x3f).toInt64.toUInt64).toInt64).toInt32).toInt8.toInt32)), (nar .byte ((((p1.toUInt64 >>> ((24 : Int32) &&& 0x3f).toInt64.toUInt64).toInt64).toInt32).toInt8.toInt32)), (nar .byte ((((p1.toUInt64 >>> ((32 : Int32) &&& 0x3f).toInt64.toUInt64).toInt64).toInt32).toInt8.toInt32)), (nar .byte ((((p1.toUInt64 >>> ((40 : Int32) &&& 0x3f).toInt64.toUInt64).toInt64).toInt32).toInt8.toInt32))] q 3) (to - q)) to 6 fr))] [(.int (1 : Int32))])
  refine Rch.retZ X109 hx hlk Bd.returns (hb hby at_117) (by decide) (by decide) ?_
  unfold Qrm0
  exact ⟨rfl, N109⟩
set_option maxRecDepth 65536 in
set_option maxHeartbeats 40000000 in
theorem comes_1 {Post : Tables → Env → Array Value → State → Outcome → State → Prop} (hpost : ∀ tb e args s v u, (limb_1_1.after args s (.returned v) u = true ∧ limb_1_2.after args s (.returned v) u = true ∧ True) → FrameEnd s (.returned v) u (Jvm.fieldLocs frame_1_writes args s ++ Jvm.arrayLocs frame_1_arrays args s ++ Jvm.staticLocs frame_1_statics s) 16 128 → Post tb e args s (.returned v) u) :
    ArmFor flags0 classFile x code maxLocals ret World_1 tables_1 room_1 Calls_1 rest_1 Pre_1 Post := by
  intro l hfl _ _ p e ha hc hk s m args below hf hA hF happ hP
  obtain ⟨hcalls, hrest, hpre⟩ := hP
  obtain ⟨-, -, -, hnamed, -, -, -, hat⟩ := (Spec.applies_iff hf).mp happ
  obtain ⟨hg, hn⟩ := and_e (Cond.before_iff.mp (show (Jvm.Cond.and given_1 narrow_1).before args s = true from hpre))
  obtain ⟨hcnt, hr0⟩ := and_e hg
  obtain ⟨w0, w1, w2, rfl⟩ : ∃ w0 w1 w2 : Value, args = #[w0, w1, w2] := by
    have hs : args.size = 3 := by simpa [Cond.value, given_1] using hcnt
    obtain ⟨L⟩ := args
    match L, hs with
    | [w0, w1, w2], _ => exact ⟨w0, w1, w2, rfl⟩
  have hw := fun d (hd : d ∈ tables_1) => atoms_spec (ws := Jvm.Cond.code x code maxLocals ret :: tables_1) hat d (List.mem_cons_of_mem _ hd)
  obtain ⟨ha0, hr1⟩ := and_e hr0
  obtain ⟨i0, e0⟩ := isL_v ha0
  obtain rfl : w0 = (.long i0) := Option.some.inj e0
  obtain ⟨ha1, hr2⟩ := and_e hr1
  obtain ⟨i1, e1⟩ := is_v ha1
  obtain rfl : w1 = (.int i1) := Option.some.inj e1
  obtain ⟨i2, e2⟩ := is_v hr2
  obtain rfl : w2 = (.int i2) := Option.some.inj e2
  obtain ⟨n, o, h1, h2, h3, _, L, rfl, ⟨rfl, N⟩, hq⟩ := rm0 l s _ hw tables_1 i0 i1 i2 s.heap s.heap.size (Nat.le_refl _) p e ha hc hk s m _ below hf ((Spec.applies_iff_loose hf).mp happ).1 ⟨rfl, State.Warmed39.refl s, rfl⟩ trivial
  refine ⟨n, _, h1, h2, h3, hpost _ _ _ _ _ _ ⟨Cond.after_iff.mpr rfl, Cond.after_iff.mpr (eq_i res_at (Term.int_eval (1)) rfl), trivial⟩ ⟨hq.1, hq.2.1, (hq.2.2.sift fun y hy => Or.inr (N y hy)).mono (by decide) (by decide)⟩⟩
theorem main_1_1 : Claimed_1_1 := comes_1 fun _ _ _ _ _ _ h hF => ⟨h.1, hF⟩
theorem main_1_2 : Claimed_1_2 := comes_1 fun _ _ _ _ _ _ h hF => ⟨h.2.1, hF⟩
end Jvm.Pilot.@@N@@
namespace Jvm.Pilot.@@N@@
open Jvm Jvm.ClassFile Sem Op Lib Jvm.Free Jvm.Stand Jvm.Pilot.@@N@@.Jvm.D
/-! MADE BY PROGRAM (witnessworld.py) out of the Statement's table words and the real class files: 9 classes; the members and pool entries that the words name. The judged class is class 1, her method 1. -/
namespace start1
open Jvm.ClassFile
def u (s : String) : CpInfo := .utf8 (stringToUtf16 s)
/-- a pool by its gaps: so many unusable entries, then the entry; so many at the end -/
def gap : Nat → List CpInfo → List CpInfo
  | 0, r => r
  | n + 1, r => .unusable :: gap n r
def poolList (es : List (Nat × CpInfo)) (last : Nat) : List CpInfo := es.foldr (fun e r => gap e.1 (e.2 :: r)) (gap last [])
def pool (es : List (Nat × CpInfo)) (last : Nat) : Array CpInfo := ⟨poolList es last⟩
def fileOf (pool : Array CpInfo) (this : Nat) (attrs : Array Attribute := #[]) (ms : Array MethodInfo := #[]) (fl : Nat := 33) (sup : Nat := 0) (ifs : Array Nat := #[]) (fds : Array FieldInfo := #[]) : ClassFile where
  minorVersion := 0
  majorVersion := 65
  constantPool := pool
  accessFlags := fl
  thisClass := this
  superClass := sup
  interfaces := ifs
  fields := fds
  methods := ms
  attributes := attrs
def plain (name : String) (sup : Option ClassId) : Class where
  name := name
  kind := .ordinary
  loader := none
  accessFlags := 33
  super := sup
  interfaces := #[]
  cf := none
  fields := #[]
  methods := #[]
  instanceTypes := #[]
  staticTypes := #[]
  resolved := #[]
  callSites := []
  init := .initialized
  statics := none
  mirror := none

def pool0 : Array CpInfo := pool [(5, u "<init>"), (0, u "()V"), (1, .class_ 10), (1, u "java/lang/Object")] 113

def k0m0 : Method := { name := "<init>", desc := "()V", sig := { parameters := [], returnType := none }, accessFlags := 1, code := none }
/-- java/lang/Object -/
def k0 : Class := { plain "java/lang/Object" none with
  accessFlags := 33
  interfaces := #[]
  cf := some (fileOf pool0 8 #[] #[{ accessFlags := 1, nameIndex := 5, descriptorIndex := 6, attributes := #[] }] 33 0 #[] #[])
  fields := #[]
  methods := #[k0m0]
  instanceTypes := #[]
  staticTypes := #[]
  resolved := Array.replicate 124 none
  statics := none }

def pool1 : Array CpInfo := pool [(2, .class_ 4), (1, u "java/lang/Object"), (0, u "<init>"), (0, u "()V"), (0, .integer 2147483647), (0, .methodref 9 10), (0, .class_ 11), (0, .nameAndType 12 13), (0, u "com/example/slicewright/slicewright/runtime/Utf8"), (0, u "wellFormedUpTo"), (0, u "([BII)I"), (0, .methodref 15 16), (0, .class_ 17), (0, .nameAndType 18 13), (0, u "com/example/slicewright/slicewright/runtime/Utf8WellFormedUpToPinLaw"), (0, u "expected"), (0, .methodref 15 20), (0, .nameAndType 21 13), (0, u "seq"), (0, .integer 65536), (0, .integer 55296), (0, .integer 57343), (0, .integer 1114111), (2, u "law"), (0, u "(JII)Z")] 5

def k1m0 : Method := { name := "<init>", desc := "()V", sig := { parameters := [], returnType := none }, accessFlags := 1, code := none }
def k1c1 : Code := { maxStack := 5, maxLocals := 8, code := code, exceptionTable := #[], attributes := #[] }
def k1m1 : Method := { name := "law", desc := "(JII)Z", sig := { parameters := [.long, .int, .int], returnType := some .boolean }, accessFlags := 9, code := some k1c1 }
def k1c2 : Code := { maxStack := 3, maxLocals := 5, code := method_3_code, exceptionTable := #[], attributes := #[] }
def k1m2 : Method := { name := "expected", desc := "([BII)I", sig := { parameters := [(.array .byte), .int, .int], returnType := some .int }, accessFlags := 10, code := some k1c2 }
def k1c3 : Code := { maxStack := 3, maxLocals := 10, code := method_4_code, exceptionTable := #[], attributes := #[] }
def k1m3 : Method := { name := "seq", desc := "([BII)I", sig := { parameters := [(.array .byte), .int, .int], returnType := some .int }, accessFlags := 10, code := some k1c3 }
/-- com/example/slicewright/slicewright/runtime/Utf8WellFormedUpToPinLaw -/
def k1 : Class := { plain "com/example/slicewright/slicewright/runtime/Utf8WellFormedUpToPinLaw" (some 0) with
  accessFlags := 49
  interfaces := #[]
  cf := some (fileOf pool1 15 #[] #[{ accessFlags := 1, nameIndex := 5, descriptorIndex := 6, attributes := #[] }, { accessFlags := 9, nameIndex := 28, descriptorIndex := 29, attributes := #[] }, { accessFlags := 10, nameIndex := 18, descriptorIndex := 13, attributes := #[] }, { accessFlags := 10, nameIndex := 21, descriptorIndex := 13, attributes := #[] }] 49 2 #[] #[])
  fields := #[]
  methods := #[k1m0, k1m1, k1m2, k1m3]
  instanceTypes := #[]
  staticTypes := #[]
  resolved := Array.replicate 35 none
  statics := none }

def pool2 : Array CpInfo := pool [(2, .class_ 4), (1, u "java/lang/Object"), (0, u "<init>"), (0, u "()V"), (35, .methodref 43 44), (0, .class_ 45), (0, .nameAndType 46 47), (0, u "com/example/slicewright/slicewright/runtime/Utf8"), (0, u "sequenceLength"), (0, u "(I)I"), (0, .methodref 43 49), (0, .nameAndType 50 51), (0, u "continues"), (0, u "([BII)Z"), (0, .methodref 43 53), (0, .nameAndType 54 55), (0, u "inRange"), (0, u "(BII)Z"), (7, u "wellFormedUpTo"), (0, u "([BII)I")] 17

def k2m0 : Method := { name := "<init>", desc := "()V", sig := { parameters := [], returnType := none }, accessFlags := 2, code := none }
def k2c1 : Code := { maxStack := 3, maxLocals := 6, code := prog_97_method_4_code, exceptionTable := #[], attributes := #[] }
def k2m1 : Method := { name := "wellFormedUpTo", desc := "([BII)I", sig := { parameters := [(.array .byte), .int, .int], returnType := some .int }, accessFlags := 8, code := some k2c1 }
def k2c2 : Code := { maxStack := 2, maxLocals := 2, code := prog_97_method_5_code, exceptionTable := #[], attributes := #[] }
def k2m2 : Method := { name := "sequenceLength", desc := "(I)I", sig := { parameters := [.int], returnType := some .int }, accessFlags := 10, code := some k2c2 }
def k2c3 : Code := { maxStack := 3, maxLocals := 8, code := prog_97_method_6_code, exceptionTable := #[], attributes := #[] }
def k2m3 : Method := { name := "continues", desc := "([BII)Z", sig := { parameters := [(.array .byte), .int, .int], returnType := some .boolean }, accessFlags := 10, code := some k2c3 }
def k2c4 : Code := { maxStack := 2, maxLocals := 4, code := prog_97_method_7_code, exceptionTable := #[], attributes := #[] }
def k2m4 : Method := { name := "inRange", desc := "(BII)Z", sig := { parameters := [.byte, .int, .int], returnType := some .boolean }, accessFlags := 10, code := some k2c4 }
/-- com/example/slicewright/slicewright/runtime/Utf8 -/
def k2 : Class := { plain "com/example/slicewright/slicewright/runtime/Utf8" (some 0) with
  accessFlags := 48
  interfaces := #[]
  cf := some (fileOf pool2 43 #[] #[{ accessFlags := 2, nameIndex := 5, descriptorIndex := 6, attributes := #[] }, { accessFlags := 8, nameIndex := 63, descriptorIndex := 64, attributes := #[] }, { accessFlags := 10, nameIndex := 46, descriptorIndex := 47, attributes := #[] }, { accessFlags := 10, nameIndex := 50, descriptorIndex := 51, attributes := #[] }, { accessFlags := 10, nameIndex := 54, descriptorIndex := 55, attributes := #[] }] 48 2 #[] #[])
  fields := #[]
  methods := #[k2m0, k2m1, k2m2, k2m3, k2m4]
  instanceTypes := #[]
  staticTypes := #[]
  resolved := Array.replicate 82 none
  statics := none }

def pool3 : Array CpInfo := pool [(1, u "java/lang/Cloneable"), (0, .class_ 1), (0, u "java/lang/Object"), (0, .class_ 3)] 3

/-- java/lang/Cloneable -/
def k3 : Class := { plain "java/lang/Cloneable" (some 0) with
  accessFlags := 1537
  interfaces := #[]
  cf := some (fileOf pool3 2 #[] #[] 1537 4 #[] #[])
  fields := #[]
  methods := #[]
  instanceTypes := #[]
  staticTypes := #[]
  resolved := Array.replicate 8 none
  statics := none }

def pool4 : Array CpInfo := pool [(1, u "java/io/Serializable"), (0, .class_ 1), (0, u "java/lang/Object"), (0, .class_ 3)] 3

/-- java/io/Serializable -/
def k4 : Class := { plain "java/io/Serializable" (some 0) with
  accessFlags := 1537
  interfaces := #[]
  cf := some (fileOf pool4 2 #[] #[] 1537 4 #[] #[])
  fields := #[]
  methods := #[]
  instanceTypes := #[]
  staticTypes := #[]
  resolved := Array.replicate 8 none
  statics := none }

/-- the primitive byte -/
def k5 : Class := { plain "byte" none with kind := .primitive 'B', accessFlags := 0x411 }
/-- [B -/
def k6 : Class := { plain "[B" (some 0) with kind := .array 5 .byte, interfaces := #[3, 4], accessFlags := 1041 }

/-- the primitive int -/
def k7 : Class := { plain "int" none with kind := .primitive 'I', accessFlags := 0x411 }
/-- [I -/
def k8 : Class := { plain "[I" (some 0) with kind := .array 7 .int, interfaces := #[3, 4], accessFlags := 1041 }

def heap : Heap := #[]
def classes : Array Class := #[k0, k1, k2, k3, k4, k5, k6, k7, k8]
def interned : List (Array UInt16 × Addr) := []
def slotsUsed : Nat := 0
def theMethod : MethodId := ⟨1, 1⟩
def args0 : Array Value := #[.long 5, .int 2, .int 3]
def aboutOver (below : List Frame) : State where
  vm := { classes := classes, interned := interned.toArray }
  heap := heap
  slotsUsed := slotsUsed
  threads := #[{ frames := .invoking theMethod args0 :: below }]
def below0 : List Frame := [.native { method := ⟨0, 0⟩, args := #[] }]
def about1 : State := aboutOver below0
def p0 : Program := .bare "" "" ""
def e0 : Env := launch0.env 0 0 0
theorem w_frames : about1.frames = Frame.invoking theMethod args0 :: below0 := rfl
set_option maxRecDepth 65536 in
theorem w_args : argsFit about1.vm theMethod args0 = true := by decide +kernel
set_option maxRecDepth 65536 in
theorem w_heap : heapFits about1 = true := by decide +kernel
set_option maxRecDepth 65536 in
theorem w_runnable : about1.curStatus? = some .runnable := by decide +kernel
set_option maxRecDepth 65536 in
theorem w_alone : about1.alone = true := by decide +kernel
set_option maxRecDepth 65536 in
theorem w_named : about1.methodNamed? x = some theMethod := by decide +kernel
set_option maxRecDepth 65536 in
theorem w_hears : about1.hears theMethod below0 = true := by decide +kernel
set_option maxRecDepth 65536 in
theorem w_ripe : about1.ripe theMethod args0 below0 = true := by decide +kernel
theorem w_running : about1.status = .running := rfl
set_option maxRecDepth 65536 in
theorem w_room : about1.hasRoom e0.platform room_1 = true :=
  launch0.hasRoom_least _ room_1 (by decide +kernel) (by decide +kernel) (by decide +kernel) (by decide +kernel) (by decide +kernel) (by decide +kernel)
theorem allAtoms_all (ts : List Jvm.Cond) (a : Array Jvm.Value) (st : Jvm.State) : (allAtoms ts).before a st = ts.all (fun c => c.before a st) := by
  induction ts with
  | nil => rfl
  | cons c t ih =>
    show (Jvm.Cond.and c (allAtoms t)).before a st = _
    rw [Jvm.Cond.before_and, ih, List.all_cons]
def words1 : List Jvm.Cond := Jvm.Cond.code x code maxLocals ret :: tables_1
/-- a 'code' word, met by the world's own term for the bytes: nothing is compared byte by byte -/
theorem code_word {y : MethodName} {bytes : ByteArray} {mx : Nat} {rt : Option FieldType} {a : Array Value} {s : State} {m : MethodId} {meth : Method} {c : Code} (h1 : s.methodNamed? y = some m) (h2 : s.vm.method? m = some meth) (h3 : meth.code = some c) (h4 : c.code = bytes)
    (h5 : (c.maxLocals == mx && c.exceptionTable.isEmpty && decide (c.maxStack ≤ mostOperands) && decide (meth.sig.returnType = rt) && !meth.locks && decide (parseMethodDescriptor y.desc = some meth.sig)) = true) : (Jvm.Cond.code y bytes mx rt).before a s = true := by
  simp only [Bool.and_eq_true, beq_iff_eq, Bool.not_eq_true', decide_eq_true_eq] at h5
  obtain ⟨⟨⟨⟨⟨g1, g2⟩, g3⟩, g4⟩, g5⟩, g6⟩ := h5
  simp [Cond.before, Cond.holds, Cond.value, h1, h2, h3, h4, g1, g2, g3, g4, g5, g6]
def isCode : Jvm.Cond → Bool
  | .code _ _ _ _ => true
  | _ => false
theorem all_split {L : List Jvm.Cond} {P : Jvm.Cond → Bool} (h1 : L.all (fun c => isCode c || P c) = true) (h2 : ∀ c ∈ L.filter isCode, P c = true) : L.all P = true := by
  refine List.all_eq_true.mpr fun c hc => ?_
  have h := List.all_eq_true.mp h1 c hc
  rcases Bool.eq_false_or_eq_true (isCode c) with hi | hi
  · exact h2 c (List.mem_filter.mpr ⟨hc, hi⟩)
  · simpa [hi] using h
set_option maxRecDepth 65536 in
theorem w_c0 : (Jvm.Cond.code x code maxLocals ret).before args0 about1 = true := code_word (m := ⟨1, 1⟩) (meth := k1m1) (c := k1c1) (by decide +kernel) rfl rfl rfl (by decide +kernel)
set_option maxRecDepth 65536 in
theorem w_c1 : (Jvm.Cond.code ({ cls := "com/example/slicewright/slicewright/runtime/Utf8", name := "wellFormedUpTo", desc := "([BII)I" } : Jvm.MethodName) prog_97_method_4_code (6 : Nat) (Option.some Jvm.ClassFile.FieldType.int)).before args0 about1 = true := code_word (m := ⟨2, 1⟩) (meth := k2m1) (c := k2c1) (by decide +kernel) rfl rfl rfl (by decide +kernel)
set_option maxRecDepth 65536 in
theorem w_c2 : (Jvm.Cond.code ({ cls := "com/example/slicewright/slicewright/runtime/Utf8", name := "sequenceLength", desc := "(I)I" } : Jvm.MethodName) prog_97_method_5_code (2 : Nat) (Option.some Jvm.ClassFile.FieldType.int)).before args0 about1 = true := code_word (m := ⟨2, 2⟩) (meth := k2m2) (c := k2c2) (by decide +kernel) rfl rfl rfl (by decide +kernel)
set_option maxRecDepth 65536 in
theorem w_c3 : (Jvm.Cond.code ({ cls := "com/example/slicewright/slicewright/runtime/Utf8", name := "continues", desc := "([BII)Z" } : Jvm.MethodName) prog_97_method_6_code (8 : Nat) (Option.some Jvm.ClassFile.FieldType.boolean)).before args0 about1 = true := code_word (m := ⟨2, 3⟩) (meth := k2m3) (c := k2c3) (by decide +kernel) rfl rfl rfl (by decide +kernel)
set_option maxRecDepth 65536 in
theorem w_c4 : (Jvm.Cond.code ({ cls := "com/example/slicewright/slicewright/runtime/Utf8WellFormedUpToPinLaw", name := "expected", desc := "([BII)I" } : Jvm.MethodName) method_3_code (5 : Nat) (Option.some Jvm.ClassFile.FieldType.int)).before args0 about1 = true := code_word (m := ⟨1, 2⟩) (meth := k1m2) (c := k1c2) (by decide +kernel) rfl rfl rfl (by decide +kernel)
set_option maxRecDepth 65536 in
theorem w_c5 : (Jvm.Cond.code ({ cls := "com/example/slicewright/slicewright/runtime/Utf8WellFormedUpToPinLaw", name := "seq", desc := "([BII)I" } : Jvm.MethodName) method_4_code (10 : Nat) (Option.some Jvm.ClassFile.FieldType.int)).before args0 about1 = true := code_word (m := ⟨1, 3⟩) (meth := k1m3) (c := k1c3) (by decide +kernel) rfl rfl rfl (by decide +kernel)
set_option maxRecDepth 65536 in
theorem w_c6 : (Jvm.Cond.code ({ cls := "com/example/slicewright/slicewright/runtime/Utf8", name := "inRange", desc := "(BII)Z" } : Jvm.MethodName) prog_97_method_7_code (4 : Nat) (Option.some Jvm.ClassFile.FieldType.boolean)).before args0 about1 = true := code_word (m := ⟨2, 4⟩) (meth := k2m4) (c := k2c4) (by decide +kernel) rfl rfl rfl (by decide +kernel)
def codes1 : List Jvm.Cond := [Jvm.Cond.code x code maxLocals ret, Jvm.Cond.code ({ cls := "com/example/slicewright/slicewright/runtime/Utf8", name := "wellFormedUpTo", desc := "([BII)I" } : Jvm.MethodName) prog_97_method_4_code (6 : Nat) (Option.some Jvm.ClassFile.FieldType.int), Jvm.Cond.code ({ cls := "com/example/slicewright/slicewright/runtime/Utf8", name := "sequenceLength", desc := "(I)I" } : Jvm.MethodName) prog_97_method_5_code (2 : Nat) (Option.some Jvm.ClassFile.FieldType.int), Jvm.Cond.code ({ cls := "com/example/slicewright/slicewright/runtime/Utf8", name := "continues", desc := "([BII)Z" } : Jvm.MethodName) prog_97_method_6_code (8 : Nat) (Option.some Jvm.ClassFile.FieldType.boolean), Jvm.Cond.code ({ cls := "com/example/slicewright/slicewright/runtime/Utf8WellFormedUpToPinLaw", name := "expected", desc := "([BII)I" } : Jvm.MethodName) method_3_code (5 : Nat) (Option.some Jvm.ClassFile.FieldType.int), Jvm.Cond.code ({ cls := "com/example/slicewright/slicewright/runtime/Utf8WellFormedUpToPinLaw", name := "seq", desc := "([BII)I" } : Jvm.MethodName) method_4_code (10 : Nat) (Option.some Jvm.ClassFile.FieldType.int), Jvm.Cond.code ({ cls := "com/example/slicewright/slicewright/runtime/Utf8", name := "inRange", desc := "(BII)Z" } : Jvm.MethodName) prog_97_method_7_code (4 : Nat) (Option.some Jvm.ClassFile.FieldType.boolean)]
set_option maxRecDepth 65536 in
theorem codes_eq : words1.filter isCode = codes1 := rfl
theorem w_codes : ∀ c ∈ words1.filter isCode, c.before args0 about1 = true := by
  rw [codes_eq]
  intro c hc
  simp only [codes1, List.mem_cons, List.not_mem_nil, or_false] at hc
  rcases hc with rfl | rfl | rfl | rfl | rfl | rfl | rfl
  · exact w_c0
  · exact w_c1
  · exact w_c2
  · exact w_c3
  · exact w_c4
  · exact w_c5
  · exact w_c6
set_option maxRecDepth 65536 in
theorem w_t1 : (words1.take 24).all (fun c => isCode c || c.before args0 about1) = true := by decide +kernel
set_option maxRecDepth 65536 in
theorem w_t2 : (words1.drop 24).all (fun c => isCode c || c.before args0 about1) = true := by decide +kernel
theorem w_tables : (allAtoms (Jvm.Cond.code x code maxLocals ret :: tables_1)).before args0 about1 = true := by
  rw [allAtoms_all]
  show words1.all (fun c => c.before args0 about1) = true
  refine all_split ?_ w_codes
  rw [← List.take_append_drop 24 words1, List.all_append, w_t1, w_t2]
  rfl
set_option maxRecDepth 65536 in
theorem w_case : (Jvm.Cond.and given_1 narrow_1).before args0 about1 = true := by decide +kernel
theorem w_applies : (headSpec (Jvm.Cond.code x code maxLocals ret :: tables_1) room_1).applies x e0.platform about1 = true :=
  (Spec.applies_iff w_frames).mpr ⟨w_running, w_runnable, w_alone, w_named, w_hears, w_ripe, w_room, w_tables⟩
theorem atStart : AtStart classFile x code maxLocals ret World_1 tables_1 room_1 Calls_1 rest_1 Pre_1 launch0 p0 e0 about1 theMethod args0 below0 :=
  ⟨lists_1, trivial, launch0.admits_env _ _ _, launch0.least_env, fairChoices_fair.cas, fairChoices_fair.clock, w_frames, w_args, w_heap, w_applies, trivial, trivial, w_case⟩
end start1
theorem witness_1 : WitnessClaimed_1 := ⟨start1.p0, start1.e0, start1.about1, start1.theMethod, start1.args0, start1.below0, start1.atStart⟩
end Jvm.Pilot.@@N@@
