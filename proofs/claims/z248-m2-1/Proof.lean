import JvmDerived
import JvmDerived.Pilot.@@N@@Statement
import JvmDerived.Pilot.@@N@@Code
set_option linter.unusedVariables false
set_option linter.unusedSimpArgs false
namespace Jvm.RoadKit
open Sem ClassFile Op Lib Jvm.Stand Jvm.Free Jvm.LawKit
section Own
variable {p : Program} {l : Launch} {e : Env} {R : Room} {s : State} {m : MethodId} {args : Array Value} {below : List Frame} {meth : Method} {c : Code} {T : State} {locs : List Loc} {cells slots : Nat} {Z : State} {a0 : Array Value} {h h' : Heap}
theorem retI (X : Stand p l e R s m args below meth c T locs cells slots) (hx : p.tables.exec = Jvm.exec) {pc : Nat} {Ls : Array Slot} {z : Int32} {rest : List Value} (hret : meth.sig.returnType = some .int) (hd : decode c.code pc = .ok (.ireturn, 1)) {fs : List Frame}
    (hl : ∀ (f : JFrame) (acts : List Action), f.method = m → f.locked = none → f.entered = [] → (doReturn e (T.setTop f) acts (some (.int z))).1 = T.setFrames fs) : Steps p.tables e below (T.setTop (mkF m pc Ls (.int z :: rest))) (T.setFrames fs) := by
  have hm' : T.vm.method? m = some meth := X.method'
  have hn : narrow .int (.int z) = .int z := rfl
  show Steps p.tables e below (T.setTop { method := m, pc := pc, locals := Ls, stack := _ :: rest, locked := none }) _
  jvm_step X.here [X.here.top, hx, hd, hm', hret, hn]
  first | (intro acts; rw [hl _ acts rfl rfl rfl]) | rw [hl _ _ rfl rfl rfl]
  exact Steps.refl _
/-- from this frame the walk comes to an end that says G -/
def Rch (p : Program) (e : Env) (below : List Frame) (G : State → Outcome → Prop) (T : State) (g : JFrame) : Prop :=
  ∃ s₂ o, Steps p.tables e below (T.setTop g) s₂ ∧ s₂.status = .running ∧ Ended s₂ below o ∧ G s₂ o
variable {G : State → Outcome → Prop} {T' : State} {g g' : JFrame}
theorem Rch.go (st : ∀ t, Steps p.tables e below (T'.setTop g') t → Steps p.tables e below (T.setTop g) t) (k : Rch p e below G T' g') : Rch p e below G T g := by
  obtain ⟨s2, o, a, b⟩ := k
  exact ⟨s2, o, st _ a, b⟩
theorem Rch.jump (st : Steps p.tables e below (T.setTop g) (T'.setTop g')) (k : Rch p e below G T' g') : Rch p e below G T g := Rch.go (fun _ q => st.trans q) k
theorem Rch.entry {n : Nat} (q : entryFrame m args n = g) (k : Rch p e below G T g) : ∃ s₂ o, Steps p.tables e below (T.setTop (entryFrame m args n)) s₂ ∧ s₂.status = .running ∧ Ended s₂ below o ∧ G s₂ o := by rw [q]; exact k
/-- what a contract says of its end -/
def EndQ (Q : Option Value → Heap → List Loc → Prop) (U : State) (kc ks : Nat) (U' : State) (o : Outcome) : Prop := ∃ v L, o = .returned v ∧ Q v U'.heap L ∧ FrameEnd U o U' L kc ks
variable {Q : Option Value → Heap → List Loc → Prop} {kc ks : Nat} {pc : Nat} {Ls : Array Slot} {rest : List Value}
theorem Rch.retI (X : Stand p l e R s m args below meth c T locs cells slots) (hx : p.tables.exec = Jvm.exec) (hlk : meth.locks = false) {z : Int32} (hret : meth.sig.returnType = some .int) (hd : decode c.code pc = .ok (.ireturn, 1)) (hc : cells ≤ kc) (hs : slots ≤ ks) (hQ : Q (some (.int z)) T.heap locs) : Rch p e below (EndQ Q s kc ks) T (mkF m pc Ls (.int z :: rest)) := by
  obtain ⟨fs, hr, hrun, hended, hW, hsame⟩ := X.leave (v := some (.int z)) (fun h => by rw [hret] at h; cases h)
  exact ⟨_, _, Jvm.RoadKit.retI X hx hret hd hr, hrun, hended, _, _, rfl, hQ, ⟨_, rfl⟩, hW, hsame.mono hc hs⟩
theorem Rch.retZ (X : Stand p l e R s m args below meth c T locs cells slots) (hx : p.tables.exec = Jvm.exec) (hlk : meth.locks = false) {z : Int32} (hret : meth.sig.returnType = some .boolean) (hd : decode c.code pc = .ok (.ireturn, 1)) (hc : cells ≤ kc) (hs : slots ≤ ks) (hQ : Q (some (.int (nar .boolean z))) T.heap locs) : Rch p e below (EndQ Q s kc ks) T (mkF m pc Ls (.int z :: rest)) := by
  obtain ⟨fs, hr, hrun, hended, hW, hsame⟩ := X.leave (v := some (.int (nar .boolean z))) (fun h => by rw [hret] at h; cases h)
  exact ⟨_, _, retN X hx hret (Or.inl rfl) hd hr, hrun, hended, _, _, rfl, hQ, ⟨_, rfl⟩, hW, hsame.mono hc hs⟩
theorem Rch.retJ (X : Stand p l e R s m args below meth c T locs cells slots) (hx : p.tables.exec = Jvm.exec) (hlk : meth.locks = false) {z : Int64} (hret : meth.sig.returnType = some .long) (hd : decode c.code pc = .ok (.lreturn, 1)) (hc : cells ≤ kc) (hs : slots ≤ ks) (hQ : Q (some (.long z)) T.heap locs) : Rch p e below (EndQ Q s kc ks) T (mkF m pc Ls (.long z :: rest)) := by
  obtain ⟨fs, hr, hrun, hended, hW, hsame⟩ := X.leave (v := some (.long z)) (fun h => by rw [hret] at h; cases h)
  exact ⟨_, _, retOut X hx hret rfl (Or.inr (Or.inl ⟨rfl, rfl, _, rfl⟩)) hd hr, hrun, hended, _, _, rfl, hQ, ⟨_, rfl⟩, hW, hsame.mono hc hs⟩
theorem Rch.retA (X : Stand p l e R s m args below meth c T locs cells slots) (hx : p.tables.exec = Jvm.exec) (hlk : meth.locks = false) {a : Addr} {t : FieldType} (ht : t.isReference = true) (hn : narrow t (.ref a) = .ref a) (hret : meth.sig.returnType = some t) (hd : decode c.code pc = .ok (.areturn, 1)) (hc : cells ≤ kc) (hs : slots ≤ ks) (hQ : Q (some (.ref a)) T.heap locs) : Rch p e below (EndQ Q s kc ks) T (mkF m pc Ls (.ref a :: rest)) := by
  obtain ⟨fs, hr, hrun, hended, hW, hsame⟩ := X.leave (v := some (.ref a)) (fun h => by rw [hret] at h; cases h)
  exact ⟨_, _, retOut X hx hret hn (Or.inr (Or.inr (Or.inr (Or.inr ⟨rfl, ht, rfl⟩)))) hd hr, hrun, hended, _, _, rfl, hQ, ⟨_, rfl⟩, hW, hsame.mono hc hs⟩
theorem Rch.retV (X : Stand p l e R s m args below meth c T locs cells slots) (hx : p.tables.exec = Jvm.exec) (hlk : meth.locks = false) (hret : meth.sig.returnType = none) (hd : decode c.code pc = .ok (.return_, 1)) (hc : cells ≤ kc) (hs : slots ≤ ks) (hQ : Q none T.heap locs) : Rch p e below (EndQ Q s kc ks) T (mkF m pc Ls []) := by
  obtain ⟨fs, hr, hrun, hended, hW, hsame⟩ := X.leave (v := none) (fun _ => rfl)
  exact ⟨_, _, X.returnOut hx hret hd hr, hrun, hended, _, _, rfl, hQ, ⟨_, rfl⟩, hW, hsame.mono hc hs⟩
variable {a : Addr} {k : ClassId} {z : Int32} {vs : List Value} {dv : Value} {ty : FieldType}
theorem ldB (X : Stand p l e R s m args below meth c T locs cells slots) (hx : p.tables.exec = Jvm.exec) (hZ : Z.Warmed39 s.vm) (eT : T.heap = h) (V : Arv Z h a k .byte z vs dv) {j : Int32} {v : Value} (hj : ¬ j < 0 ∧ j < z) (hv : vs.getD j.toNatClampNeg dv = v) (hg : g.method = m) (hs : g.stack = .int j :: .ref a :: rest) (hd : decode c.code g.pc = .ok (.baload, 1)) (target : State)
    (hr : Steps p.tables e below (T.setTop { g with pc := g.pc + 1, stack := v :: rest }) target) : Steps p.tables e below (T.setTop g) target := by
  obtain ⟨c', A, -, S, M, H, -⟩ := V
  exact X.baloadBytes hx (by rw [eT]; exact A.1) (State.isArrayOf_alike hZ.alike A.2.1) A.2.2 (inb_of S hj) (H.at (inb_of S hj) hv) hg hs hd target hr
theorem ldI (X : Stand p l e R s m args below meth c T locs cells slots) (hx : p.tables.exec = Jvm.exec) (hZ : Z.Warmed39 s.vm) (eT : T.heap = h) (V : Arv Z h a k .int z vs dv) {j : Int32} {v : Value} (hj : ¬ j < 0 ∧ j < z) (hv : vs.getD j.toNatClampNeg dv = v) (hg : g.method = m) (hs : g.stack = .int j :: .ref a :: rest) (hd : decode c.code g.pc = .ok (.iaload, 1)) (target : State)
    (hr : Steps p.tables e below (T.setTop { g with pc := g.pc + 1, stack := v :: rest }) target) : Steps p.tables e below (T.setTop g) target := by
  obtain ⟨c', A, -, S, M, H, -⟩ := V
  exact X.iaload hx (by rw [eT]; exact A.1) (State.isArrayOf_alike hZ.alike A.2.1) A.2.2 (inb_of S hj) (H.at (inb_of S hj) hv) hg hs hd target hr
theorem ldJ (X : Stand p l e R s m args below meth c T locs cells slots) (hx : p.tables.exec = Jvm.exec) (hZ : Z.Warmed39 s.vm) (eT : T.heap = h) (V : Arv Z h a k .long z vs dv) {j : Int32} {v : Value} (hj : ¬ j < 0 ∧ j < z) (hv : vs.getD j.toNatClampNeg dv = v) (hg : g.method = m) (hs : g.stack = .int j :: .ref a :: rest) (hd : decode c.code g.pc = .ok (.laload, 1)) (target : State)
    (hr : Steps p.tables e below (T.setTop { g with pc := g.pc + 1, stack := v :: rest }) target) : Steps p.tables e below (T.setTop g) target := by
  obtain ⟨c', A, -, S, M, H, -⟩ := V
  exact X.laload hx (by rw [eT]; exact A.1) (State.isArrayOf_alike hZ.alike A.2.1) A.2.2 (inb_of S hj) (H.at (inb_of S hj) hv) hg hs hd target hr
theorem lenA (X : Stand p l e R s m args below meth c T locs cells slots) (hx : p.tables.exec = Jvm.exec) (hZ : Z.Warmed39 s.vm) (eT : T.heap = h) (V : Arv Z h a k ty z vs dv) (hg : g.method = m) (hs : g.stack = .ref a :: rest) (hd : decode c.code g.pc = .ok (.arraylength, 1)) (target : State)
    (hr : Steps p.tables e below (T.setTop { g with pc := g.pc + 1, stack := .int z :: rest }) target) : Steps p.tables e below (T.setTop g) target := by
  obtain ⟨c', A, -, S, M, H, -⟩ := V
  exact X.arraylength hx (by rw [eT]; exact A.1) (State.isArrayOf_alike hZ.alike A.2.1) hg hs hd target (by rw [len_of S M]; exact hr)
theorem sdB (X : Stand p l e R s m args below meth c T locs cells slots) (hx : p.tables.exec = Jvm.exec) (hZ : Z.Warmed39 s.vm) (eT : T.heap = h) (V : Arv Z h a k .byte z vs dv) {j x : Int32} (hj : ¬ j < 0 ∧ j < z) (i : Nat) (hi : j.toNatClampNeg = i) (hl : i < vs.length) (hg : g.method = m) (hs : g.stack = .int x :: .int j :: .ref a :: rest) (hd : decode c.code g.pc = .ok (.bastore, 1)) :
    ∃ T' h', Stand p l e R s m args below meth c T' (locs ++ [⟨a, j.toNatClampNeg⟩]) cells slots ∧ T'.heap = h' ∧ Wr h h' a j.toNatClampNeg (.int (nar .byte x)) ∧ Arv Z h' a k .byte z (vs.set i (.int (nar .byte x))) dv ∧ ∀ target, Steps p.tables e below (T'.setTop { g with pc := g.pc + 1, stack := rest }) target → Steps p.tables e below (T.setTop g) target := by
  obtain ⟨c', A, q1, S, M, H, F⟩ := V
  obtain ⟨T', h', X', e', W, st⟩ := stB X hx hZ eT A (inb_of S hj) hg hs hd
  exact ⟨T', h', X', e', W, Arv.set A q1 S M H F (fits_nar_byte x) W i hi hl, st⟩
theorem sdI (X : Stand p l e R s m args below meth c T locs cells slots) (hx : p.tables.exec = Jvm.exec) (hZ : Z.Warmed39 s.vm) (eT : T.heap = h) (V : Arv Z h a k .int z vs dv) {j x : Int32} (hj : ¬ j < 0 ∧ j < z) (i : Nat) (hi : j.toNatClampNeg = i) (hl : i < vs.length) (hg : g.method = m) (hs : g.stack = .int x :: .int j :: .ref a :: rest) (hd : decode c.code g.pc = .ok (.iastore, 1)) :
    ∃ T' h', Stand p l e R s m args below meth c T' (locs ++ [⟨a, j.toNatClampNeg⟩]) cells slots ∧ T'.heap = h' ∧ Wr h h' a j.toNatClampNeg (.int x) ∧ Arv Z h' a k .int z (vs.set i (.int x)) dv ∧ ∀ target, Steps p.tables e below (T'.setTop { g with pc := g.pc + 1, stack := rest }) target → Steps p.tables e below (T.setTop g) target := by
  obtain ⟨c', A, q1, S, M, H, F⟩ := V
  obtain ⟨T', h', X', e', W, st⟩ := stI X hx hZ eT A (inb_of S hj) hg hs hd
  exact ⟨T', h', X', e', W, Arv.set A q1 S M H F rfl W i hi hl, st⟩
theorem sdJ (X : Stand p l e R s m args below meth c T locs cells slots) (hx : p.tables.exec = Jvm.exec) (hZ : Z.Warmed39 s.vm) (eT : T.heap = h) (V : Arv Z h a k .long z vs dv) {j : Int32} {x : Int64} (hj : ¬ j < 0 ∧ j < z) (i : Nat) (hi : j.toNatClampNeg = i) (hl : i < vs.length) (hg : g.method = m) (hs : g.stack = .long x :: .int j :: .ref a :: rest) (hd : decode c.code g.pc = .ok (.lastore, 1)) :
    ∃ T' h', Stand p l e R s m args below meth c T' (locs ++ [⟨a, j.toNatClampNeg⟩]) cells slots ∧ T'.heap = h' ∧ Wr h h' a j.toNatClampNeg (.long x) ∧ Arv Z h' a k .long z (vs.set i (.long x)) dv ∧ ∀ target, Steps p.tables e below (T'.setTop { g with pc := g.pc + 1, stack := rest }) target → Steps p.tables e below (T.setTop g) target := by
  obtain ⟨c', A, q1, S, M, H, F⟩ := V
  obtain ⟨T', h', X', e', W, st⟩ := stJ X hx hZ eT A (inb_of S hj) hg hs hd
  exact ⟨T', h', X', e', W, Arv.set A q1 S M H F rfl W i hi hl, st⟩
theorem naw (X : Stand p l e R s m args below meth c T locs cells slots) (hx : p.tables.exec = Jvm.exec) (hZ : Z.Warmed39 s.vm) {aty : ArrayType} (w : (Cond.arrayClass (newarray.typeOf aty)).before a0 Z = true) (eT : T.heap = h) (hg : g.method = m) (hd : decode c.code g.pc = .ok (.newarray aty, 2)) {n : Int32} (hs : g.stack = .int n :: rest)
    (hn : ¬ n < 0) (i : Nat) {cap : Nat} (hcap : n.toNatClampNeg ≤ cap) (hb : cap * 8 ≤ 536870912) (hc : cells + 1 ≤ R.cells) (hl : slots + cap ≤ R.slots) :
    ∃ T' h' cA, Stand p l e R s m args below meth c T' locs (cells + 1) (slots + cap) ∧ T'.heap = h' ∧ Ext h h' ∧ Arv Z h' h.size cA (newarray.typeOf aty) n (List.replicate i (defaultValue (newarray.typeOf aty))) (defaultValue (newarray.typeOf aty)) ∧
      ∀ target, Steps p.tables e below (T'.setTop { g with pc := g.pc + 2, stack := .ref h.size :: rest }) target → Steps p.tables e below (T.setTop g) target := by
  obtain ⟨T', h', cA, X', e', E, A, st⟩ := newP X hx hZ w eT hg hd hs hn hcap hb hc hl
  exact ⟨T', h', cA, X', e', E, (Arv.new A hn).pad (fun q => (pad_rep [] _ i q)), st⟩
end Own
end Jvm.RoadKit
namespace Jvm.Pilot.@@N@@
open Jvm Jvm.ClassFile Sem Op Lib Jvm.Free Jvm.Stand Jvm.LawKit Jvm.RoadKit Bundle Jvm.Pilot.@@N@@.Jvm.D
def own_let (c : Int32) : Int32 := if c < 97 then (if c < 65 then 0 else if 90 < c then 0 else 1) else if 122 < c then (if c < 65 then 0 else if 90 < c then 0 else 1) else 1
theorem own_or_nat (n : Nat) : (n ||| 32) = n + 32 * (1 - n / 32 % 2) := by
  have h1 : (n ||| 32) / 2 ^ 6 = n / 2 ^ 6 := by rw [Nat.or_div_two_pow]; simp
  have h2 : (n ||| 32) % 2 ^ 6 = (n % 2 ^ 6) ||| 32 := by rw [Nat.or_mod_two_pow]
  have h3 : ∀ r : Fin 64, (r.val ||| 32) = r.val + 32 * (1 - r.val / 32 % 2) := by decide
  have h4 := h3 ⟨n % 2 ^ 6, Nat.mod_lt _ (by decide)⟩
  simp only at h4
  omega
theorem own_nat (c : Int32) (h0 : 0 ≤ c.toInt) : c.toInt = (c.toBitVec.toNat : Int) := by
  have h : c.toInt = c.toBitVec.toInt := rfl
  rw [h] at h0 ⊢
  have hl := c.toBitVec.isLt
  rw [BitVec.toInt_eq_toNat_cond] at h0 ⊢
  split <;> rename_i hh
  · rfl
  · rw [if_neg hh] at h0; omega
theorem own_or32 (c : Int32) (h0 : 0 ≤ c.toInt) (h1 : c.toInt < 65536) : (c ||| 32).toInt = c.toInt + 32 * (1 - (c.toInt / 32) % 2) := by
  have e1 := own_nat c h0
  have e2 : (c ||| 32).toBitVec.toNat = c.toBitVec.toNat ||| 32 := by
    rw [Int32.toBitVec_or, BitVec.toNat_or]; rfl
  have e3 := own_or_nat c.toBitVec.toNat
  have e4 : (c ||| 32).toInt = (c ||| 32).toBitVec.toInt := rfl
  rw [e4, BitVec.toInt_eq_toNat_cond, e2]
  split <;> omega
theorem own_key (c : Int32) (h0 : 0 ≤ c.toInt) (h1 : c.toInt < 65536) : own_let c = if ((c ||| (32 : Int32)) - (97 : Int32)) < (0 : Int32) then 0 else if ((c ||| (32 : Int32)) - (97 : Int32)) < (26 : Int32) then 1 else 0 := by
  have e1 := own_or32 c h0 h1
  have e2 := c_isub (c ||| 32) 97
  have r := rng32 ((c ||| 32) - 97)
  have k97 : (97 : Int32).toInt = 97 := rfl
  have k65 : (65 : Int32).toInt = 65 := rfl
  have k90 : (90 : Int32).toInt = 90 := rfl
  have k122 : (122 : Int32).toInt = 122 := rfl
  have k0 : (0 : Int32).toInt = 0 := rfl
  have k26 : (26 : Int32).toInt = 26 := rfl
  rw [k97] at e2
  unfold own_let
  simp only [Int32.lt_iff_toInt_lt, k97, k65, k90, k122, k0, k26]
  repeat' split
  all_goals first | rfl | (exfalso; omega)
theorem own_pn0 : plainName "com/example/plantilla/plantilla/Ascii" = true := by first | (simp [plainName, overriddenIn]; done) | decide +kernel
theorem own_pd0 : parseMethodDescriptor "(C)Z" = some ⟨[.char], some .boolean⟩ := by decide +kernel
theorem d1_0 : decode prog_1_method_2_code 0 = .ok (.iload_n 0, 1) := by decide +kernel
theorem d1_1 : decode prog_1_method_2_code 1 = .ok (.bipush 97, 2) := by decide +kernel
theorem d1_3 : decode prog_1_method_2_code 3 = .ok (.if_icmp .lt 9, 3) := by decide +kernel
theorem d1_6 : decode prog_1_method_2_code 6 = .ok (.iload_n 0, 1) := by decide +kernel
theorem d1_7 : decode prog_1_method_2_code 7 = .ok (.bipush 122, 2) := by decide +kernel
theorem d1_9 : decode prog_1_method_2_code 9 = .ok (.if_icmp .le 15, 3) := by decide +kernel
theorem d1_12 : decode prog_1_method_2_code 12 = .ok (.iload_n 0, 1) := by decide +kernel
theorem d1_13 : decode prog_1_method_2_code 13 = .ok (.bipush 65, 2) := by decide +kernel
theorem d1_15 : decode prog_1_method_2_code 15 = .ok (.if_icmp .lt 13, 3) := by decide +kernel
theorem d1_18 : decode prog_1_method_2_code 18 = .ok (.iload_n 0, 1) := by decide +kernel
theorem d1_19 : decode prog_1_method_2_code 19 = .ok (.bipush 90, 2) := by decide +kernel
theorem d1_21 : decode prog_1_method_2_code 21 = .ok (.if_icmp .gt 7, 3) := by decide +kernel
theorem d1_24 : decode prog_1_method_2_code 24 = .ok (.iconst 1, 1) := by decide +kernel
theorem d1_25 : decode prog_1_method_2_code 25 = .ok (.goto 4, 3) := by decide +kernel
theorem d1_28 : decode prog_1_method_2_code 28 = .ok (.iconst 0, 1) := by decide +kernel
theorem d1_29 : decode prog_1_method_2_code 29 = .ok (.ireturn, 1) := by decide +kernel
theorem own_ef1 (m : MethodId) (x0 : Int32) : entryFrame m #[(.int x0)] 1 = mkF m 0 #[.val (.int x0)] [] := by first | (simp [entryFrame, mkF, argsToLocals, Value.category, maxLocals]; done) | rfl
def Qrm1 (Z : State) (p1 : Int32)  (h0 : Heap) (n0 : Nat) : Option Value → Heap → List Loc → Prop := fun v h L => v = some (.int (own_let p1)) ∧ Fr n0 L ∧ h = h0
set_option maxRecDepth 65536 in
set_option maxHeartbeats 40000000 in
theorem rm1 (l : Launch) (Z : State) (a0 : Array Value) (hw : ∀ d ∈ tables_1, d.before a0 Z = true) (ws : List Jvm.Cond) (p1 : Int32)  (h0 : Heap) (n0 : Nat) (Z0 : n0 ≤ h0.size)  :
    MetFree l (⟨"com/example/plantilla/plantilla/Ascii", "isLetter", "(C)Z"⟩ : MethodName) (head1 (Jvm.Cond.code (⟨"com/example/plantilla/plantilla/Ascii", "isLetter", "(C)Z"⟩ : MethodName) prog_1_method_2_code 1 (some .boolean) :: ws) ({ frames := 0, cells := 0, slots := 0, locals := 0 } : Room)) (fun a U => a = #[(.int p1)] ∧ Z.Warmed39 U.vm ∧ U.heap = h0) (fun _ _ _ _ _ => True) (fun _ U o U' => ∃ v L, o = .returned v ∧ (Qrm1 Z p1  h0 n0) v U'.heap L ∧ FrameEnd U o U' L ({ frames := 0, cells := 0, slots := 0, locals := 0 } : Room).cells ({ frames := 0, cells := 0, slots := 0, locals := 0 } : Room).slots) := by
  refine MetFree.of_bodySF (plainFor_of_name own_pn0) hisR ?_
  intro p e s m args below meth c s₁ Bd hml0 hP hK
  obtain ⟨rfl, hZ, hh⟩ := hP
  have hx := Bd.exec
  have hby := Bd.bytes
  have hlk := Bd.notSynchronized
  have hml : c.maxLocals = 1 := hml0
  have hown : s.vm.findClass "com/example/plantilla/plantilla/Ascii" = some m.cls := findClass_of_methodNamed Bd.named
  have hnm := (name_of_methodNamed Bd.named Bd.method).1
  have X0 : Stand p l e ({ frames := 0, cells := 0, slots := 0, locals := 0 } : Room) s m #[(.int p1)] below meth c s₁ [] 0 0 := Stand.of_body Bd
  have e0 : s₁.heap = h0 := by rw [← hh, Bd.state]; rfl
  have N0 := Fr.nil n0
  refine Rch.entry (G := (EndQ (Qrm1 Z p1  h0 n0) s ({ frames := 0, cells := 0, slots := 0, locals := 0 } : Room).cells ({ frames := 0, cells := 0, slots := 0, locals := 0 } : Room).slots)) (own_ef1 m p1) ?_
  have hbool : ∀ x : Int32, nar .boolean x = x &&& 1 := fun _ => rfl
  show Rch p e below _ s₁ (mkF m 0 #[.val (.int p1)] [])
  refine Rch.go (fun _ q => XS.iloadN X0.here hx rfl (hb hby d1_0) rfl  q) ?_
  show Rch p e below _ s₁ (mkF m 1 #[.val (.int p1)] [(.int p1)])
  refine Rch.go (fun _ q => XS.bipush X0.here hx rfl (hb hby d1_1) q) ?_
  show Rch p e below _ s₁ (mkF m 3 #[.val (.int p1)] [(.int (97 : Int32)), (.int p1)])
  by_cases hc3 : p1 < (97 : Int32)
  · skip
    refine Rch.go (fun _ q => XS.icmpYes X0.here hx rfl (pc0 := 3) (pc' := 12) rfl (hb hby d1_3) rfl (tlt hc3).1 (by decide) (by decide) q) ?_
    show Rch p e below _ s₁ (mkF m 12 #[.val (.int p1)] [])
    refine Rch.go (fun _ q => XS.iloadN X0.here hx rfl (hb hby d1_12) rfl  q) ?_
    show Rch p e below _ s₁ (mkF m 13 #[.val (.int p1)] [(.int p1)])
    refine Rch.go (fun _ q => XS.bipush X0.here hx rfl (hb hby d1_13) q) ?_
    show Rch p e below _ s₁ (mkF m 15 #[.val (.int p1)] [(.int (65 : Int32)), (.int p1)])
    by_cases hc15 : p1 < (65 : Int32)
    · skip
      refine Rch.go (fun _ q => XS.icmpYes X0.here hx rfl (pc0 := 15) (pc' := 28) rfl (hb hby d1_15) rfl (tlt hc15).1 (by decide) (by decide) q) ?_
      show Rch p e below _ s₁ (mkF m 28 #[.val (.int p1)] [])
      refine Rch.go (fun _ q => XS.iconst X0.here hx rfl (hb hby d1_28) q) ?_
      show Rch p e below _ s₁ (mkF m 29 #[.val (.int p1)] [(.int (0 : Int32))])
      refine Rch.retZ X0 hx hlk Bd.returns (hb hby d1_29) (by decide) (by decide) ?_
      unfold Qrm1
      exact ⟨by simp only [own_let, hc3, hc15, if_true, if_false]; first | done | rfl, N0, e0⟩
    · skip
      refine Rch.go (fun _ q => XS.icmpNo X0.here hx rfl (hb hby d1_15) rfl (flt hc15).1 q) ?_
      show Rch p e below _ s₁ (mkF m 18 #[.val (.int p1)] [])
      refine Rch.go (fun _ q => XS.iloadN X0.here hx rfl (hb hby d1_18) rfl  q) ?_
      show Rch p e below _ s₁ (mkF m 19 #[.val (.int p1)] [(.int p1)])
      refine Rch.go (fun _ q => XS.bipush X0.here hx rfl (hb hby d1_19) q) ?_
      show Rch p e below _ s₁ (mkF m 21 #[.val (.int p1)] [(.int (90 : Int32)), (.int p1)])
      by_cases hc21 : (90 : Int32) < p1
      · skip
        refine Rch.go (fun _ q => XS.icmpYes X0.here hx rfl (pc0 := 21) (pc' := 28) rfl (hb hby d1_21) rfl (tlt hc21).2.2.1 (by decide) (by decide) q) ?_
        show Rch p e below _ s₁ (mkF m 28 #[.val (.int p1)] [])
        refine Rch.go (fun _ q => XS.iconst X0.here hx rfl (hb hby d1_28) q) ?_
        show Rch p e below _ s₁ (mkF m 29 #[.val (.int p1)] [(.int (0 : Int32))])
        refine Rch.retZ X0 hx hlk Bd.returns (hb hby d1_29) (by decide) (by decide) ?_
        unfold Qrm1
        exact ⟨by simp only [own_let, hc3, hc15, hc21, if_true, if_false]; first | done | rfl, N0, e0⟩
      · skip
        refine Rch.go (fun _ q => XS.icmpNo X0.here hx rfl (hb hby d1_21) rfl (flt hc21).2.2.1 q) ?_
        show Rch p e below _ s₁ (mkF m 24 #[.val (.int p1)] [])
        refine Rch.go (fun _ q => XS.iconst X0.here hx rfl (hb hby d1_24) q) ?_
        show Rch p e below _ s₁ (mkF m 25 #[.val (.int p1)] [(.int (1 : Int32))])
        refine Rch.go (fun _ q => XS.goto X0.here hx rfl (pc0 := 25) (pc' := 29) rfl (hb hby d1_25) (by decide) (by decide) q) ?_
        show Rch p e below _ s₁ (mkF m 29 #[.val (.int p1)] [(.int (1 : Int32))])
        refine Rch.retZ X0 hx hlk Bd.returns (hb hby d1_29) (by decide) (by decide) ?_
        unfold Qrm1
        exact ⟨by simp only [own_let, hc3, hc15, hc21, if_true, if_false]; first | done | rfl, N0, e0⟩
  · skip
    refine Rch.go (fun _ q => XS.icmpNo X0.here hx rfl (hb hby d1_3) rfl (flt hc3).1 q) ?_
    show Rch p e below _ s₁ (mkF m 6 #[.val (.int p1)] [])
    refine Rch.go (fun _ q => XS.iloadN X0.here hx rfl (hb hby d1_6) rfl  q) ?_
    show Rch p e below _ s₁ (mkF m 7 #[.val (.int p1)] [(.int p1)])
    refine Rch.go (fun _ q => XS.bipush X0.here hx rfl (hb hby d1_7) q) ?_
    show Rch p e below _ s₁ (mkF m 9 #[.val (.int p1)] [(.int (122 : Int32)), (.int p1)])
    by_cases hc9 : (122 : Int32) < p1
    · skip
      refine Rch.go (fun _ q => XS.icmpNo X0.here hx rfl (hb hby d1_9) rfl (tlt hc9).2.2.2 q) ?_
      show Rch p e below _ s₁ (mkF m 12 #[.val (.int p1)] [])
      refine Rch.go (fun _ q => XS.iloadN X0.here hx rfl (hb hby d1_12) rfl  q) ?_
      show Rch p e below _ s₁ (mkF m 13 #[.val (.int p1)] [(.int p1)])
      refine Rch.go (fun _ q => XS.bipush X0.here hx rfl (hb hby d1_13) q) ?_
      show Rch p e below _ s₁ (mkF m 15 #[.val (.int p1)] [(.int (65 : Int32)), (.int p1)])
      by_cases hc15 : p1 < (65 : Int32)
      · skip
        refine Rch.go (fun _ q => XS.icmpYes X0.here hx rfl (pc0 := 15) (pc' := 28) rfl (hb hby d1_15) rfl (tlt hc15).1 (by decide) (by decide) q) ?_
        show Rch p e below _ s₁ (mkF m 28 #[.val (.int p1)] [])
        refine Rch.go (fun _ q => XS.iconst X0.here hx rfl (hb hby d1_28) q) ?_
        show Rch p e below _ s₁ (mkF m 29 #[.val (.int p1)] [(.int (0 : Int32))])
        refine Rch.retZ X0 hx hlk Bd.returns (hb hby d1_29) (by decide) (by decide) ?_
        unfold Qrm1
        exact ⟨by simp only [own_let, hc3, hc9, hc15, if_true, if_false]; first | done | rfl, N0, e0⟩
      · skip
        refine Rch.go (fun _ q => XS.icmpNo X0.here hx rfl (hb hby d1_15) rfl (flt hc15).1 q) ?_
        show Rch p e below _ s₁ (mkF m 18 #[.val (.int p1)] [])
        refine Rch.go (fun _ q => XS.iloadN X0.here hx rfl (hb hby d1_18) rfl  q) ?_
        show Rch p e below _ s₁ (mkF m 19 #[.val (.int p1)] [(.int p1)])
        refine Rch.go (fun _ q => XS.bipush X0.here hx rfl (hb hby d1_19) q) ?_
        show Rch p e below _ s₁ (mkF m 21 #[.val (.int p1)] [(.int (90 : Int32)), (.int p1)])
        by_cases hc21 : (90 : Int32) < p1
        · skip
          refine Rch.go (fun _ q => XS.icmpYes X0.here hx rfl (pc0 := 21) (pc' := 28) rfl (hb hby d1_21) rfl (tlt hc21).2.2.1 (by decide) (by decide) q) ?_
          show Rch p e below _ s₁ (mkF m 28 #[.val (.int p1)] [])
          refine Rch.go (fun _ q => XS.iconst X0.here hx rfl (hb hby d1_28) q) ?_
          show Rch p e below _ s₁ (mkF m 29 #[.val (.int p1)] [(.int (0 : Int32))])
          refine Rch.retZ X0 hx hlk Bd.returns (hb hby d1_29) (by decide) (by decide) ?_
          unfold Qrm1
          exact ⟨by simp only [own_let, hc3, hc9, hc15, hc21, if_true, if_false]; first | done | rfl, N0, e0⟩
        · skip
          refine Rch.go (fun _ q => XS.icmpNo X0.here hx rfl (hb hby d1_21) rfl (flt hc21).2.2.1 q) ?_
          show Rch p e below _ s₁ (mkF m 24 #[.val (.int p1)] [])
          refine Rch.go (fun _ q => XS.iconst X0.here hx rfl (hb hby d1_24) q) ?_
          show Rch p e below _ s₁ (mkF m 25 #[.val (.int p1)] [(.int (1 : Int32))])
          refine Rch.go (fun _ q => XS.goto X0.here hx rfl (pc0 := 25) (pc' := 29) rfl (hb hby d1_25) (by decide) (by decide) q) ?_
          show Rch p e below _ s₁ (mkF m 29 #[.val (.int p1)] [(.int (1 : Int32))])
          refine Rch.retZ X0 hx hlk Bd.returns (hb hby d1_29) (by decide) (by decide) ?_
          unfold Qrm1
          exact ⟨by simp only [own_let, hc3, hc9, hc15, hc21, if_true, if_false]; first | done | rfl, N0, e0⟩
    · skip
      refine Rch.go (fun _ q => XS.icmpYes X0.here hx rfl (pc0 := 9) (pc' := 24) rfl (hb hby d1_9) rfl (flt hc9).2.2.2 (by decide) (by decide) q) ?_
      show Rch p e below _ s₁ (mkF m 24 #[.val (.int p1)] [])
      refine Rch.go (fun _ q => XS.iconst X0.here hx rfl (hb hby d1_24) q) ?_
      show Rch p e below _ s₁ (mkF m 25 #[.val (.int p1)] [(.int (1 : Int32))])
      refine Rch.go (fun _ q => XS.goto X0.here hx rfl (pc0 := 25) (pc' := 29) rfl (hb hby d1_25) (by decide) (by decide) q) ?_
      show Rch p e below _ s₁ (mkF m 29 #[.val (.int p1)] [(.int (1 : Int32))])
      refine Rch.retZ X0 hx hlk Bd.returns (hb hby d1_29) (by decide) (by decide) ?_
      unfold Qrm1
      exact ⟨by simp only [own_let, hc3, hc9, if_true, if_false]; first | done | rfl, N0, e0⟩
theorem own_pn1 : plainName "com/example/plantilla/plantilla/AsciiIsLetterPinLaw" = true := by first | (simp [plainName, overriddenIn]; done) | decide +kernel
theorem own_pd1 : parseMethodDescriptor "(I)Z" = some ⟨[.int], some .boolean⟩ := by decide +kernel
theorem own_ef2 (m : MethodId) (x0 : Int32) : entryFrame m #[(.int x0)] maxLocals = mkF m 0 #[.val (.int x0), .unset, .unset, .unset] [] := by first | (simp [entryFrame, mkF, argsToLocals, Value.category, maxLocals]; done) | rfl
def Qrm0 (Z : State) (p1 : Int32)  (h0 : Heap) (n0 : Nat) : Option Value → Heap → List Loc → Prop := fun v h L => v = some (.int 1) ∧ Fr n0 L
set_option maxRecDepth 65536 in
set_option maxHeartbeats 40000000 in
theorem rm0 (l : Launch) (Z : State) (a0 : Array Value) (hw : ∀ d ∈ tables_1, d.before a0 Z = true) (ws : List Jvm.Cond) (p1 : Int32)  (h0 : Heap) (n0 : Nat) (Z0 : n0 ≤ h0.size)  :
    MetFree l x (head1 (Jvm.Cond.code x code maxLocals ret :: ws) room_1) (fun a U => a = #[(.int p1)] ∧ Z.Warmed39 U.vm ∧ U.heap = h0) (fun _ _ _ _ _ => True) (fun _ U o U' => ∃ v L, o = .returned v ∧ (Qrm0 Z p1  h0 n0) v U'.heap L ∧ FrameEnd U o U' L room_1.cells room_1.slots) := by
  refine MetFree.of_bodySF (plainFor_of_name own_pn1) hisR ?_
  intro p e s m args below meth c s₁ Bd hml0 hP hK
  obtain ⟨rfl, hZ, hh⟩ := hP
  have hx := Bd.exec
  have hby := Bd.bytes
  have hlk := Bd.notSynchronized
  have hml : c.maxLocals = 4 := hml0
  have hown : s.vm.findClass "com/example/plantilla/plantilla/AsciiIsLetterPinLaw" = some m.cls := findClass_of_methodNamed Bd.named
  have hnm := (name_of_methodNamed Bd.named Bd.method).1
  have X0 : Stand p l e room_1 s m #[(.int p1)] below meth c s₁ [] 0 0 := Stand.of_body Bd
  have e0 : s₁.heap = h0 := by rw [← hh, Bd.state]; rfl
  have N0 := Fr.nil n0
  refine Rch.entry (G := (EndQ (Qrm0 Z p1  h0 n0) s room_1.cells room_1.slots)) (own_ef2 m p1) ?_
  have hbool : ∀ x : Int32, nar .boolean x = x &&& 1 := fun _ => rfl
  show Rch p e below _ s₁ (mkF m 0 #[.val (.int p1), .unset, .unset, .unset] [])
  refine Rch.go (fun _ q => XS.iloadN X0.here hx rfl (hb hby at_0) rfl  q) ?_
  show Rch p e below _ s₁ (mkF m 1 #[.val (.int p1), .unset, .unset, .unset] [(.int p1)])
  refine Rch.go (fun _ q => XS.i2c X0.here hx rfl (hb hby at_1) rfl q) ?_
  show Rch p e below _ s₁ (mkF m 2 #[.val (.int p1), .unset, .unset, .unset] [(.int (p1.toUInt32.toUInt16.toUInt32.toInt32))])
  have hci := c_i2c p1
  obtain ⟨cc, g_cc⟩ : ∃ q, q = (p1.toUInt32.toUInt16.toUInt32.toInt32) := ⟨_, rfl⟩
  rw [← g_cc]
  show Rch p e below _ s₁ (mkF m 2 #[.val (.int p1), .unset, .unset, .unset] [(.int cc)])
  rw [← g_cc] at hci
  refine Rch.go (fun _ q => XS.istoreN X0.here hx rfl (hb hby at_2) rfl (l' := #[.val (.int p1), .val (.int cc), .unset, .unset]) rfl q) ?_
  show Rch p e below _ s₁ (mkF m 3 #[.val (.int p1), .val (.int cc), .unset, .unset] [])
  refine Rch.go (fun _ q => XS.iloadN X0.here hx rfl (hb hby at_3) rfl  q) ?_
  show Rch p e below _ s₁ (mkF m 4 #[.val (.int p1), .val (.int cc), .unset, .unset] [(.int cc)])
  refine Rch.go (fun _ q => XS.bipush X0.here hx rfl (hb hby at_4) q) ?_
  show Rch p e below _ s₁ (mkF m 6 #[.val (.int p1), .val (.int cc), .unset, .unset] [(.int (32 : Int32)), (.int cc)])
  refine Rch.go (fun _ q => XS.ior X0.here hx rfl (hb hby at_6) rfl q) ?_
  show Rch p e below _ s₁ (mkF m 7 #[.val (.int p1), .val (.int cc), .unset, .unset] [(.int (cc ||| (32 : Int32)))])
  refine Rch.go (fun _ q => XS.bipush X0.here hx rfl (hb hby at_7) q) ?_
  show Rch p e below _ s₁ (mkF m 9 #[.val (.int p1), .val (.int cc), .unset, .unset] [(.int (97 : Int32)), (.int (cc ||| (32 : Int32)))])
  refine Rch.go (fun _ q => XS.isub X0.here hx rfl (hb hby at_9) rfl q) ?_
  show Rch p e below _ s₁ (mkF m 10 #[.val (.int p1), .val (.int cc), .unset, .unset] [(.int ((cc ||| (32 : Int32)) - (97 : Int32)))])
  refine Rch.go (fun _ q => XS.istoreN X0.here hx rfl (hb hby at_10) rfl (l' := #[.val (.int p1), .val (.int cc), .val (.int ((cc ||| (32 : Int32)) - (97 : Int32))), .unset]) rfl q) ?_
  show Rch p e below _ s₁ (mkF m 11 #[.val (.int p1), .val (.int cc), .val (.int ((cc ||| (32 : Int32)) - (97 : Int32))), .unset] [])
  refine Rch.go (fun _ q => XS.iloadN X0.here hx rfl (hb hby at_11) rfl  q) ?_
  show Rch p e below _ s₁ (mkF m 12 #[.val (.int p1), .val (.int cc), .val (.int ((cc ||| (32 : Int32)) - (97 : Int32))), .unset] [(.int ((cc ||| (32 : Int32)) - (97 : Int32)))])
  by_cases hc12 : ((cc ||| (32 : Int32)) - (97 : Int32)) < (0 : Int32)
  · skip
    refine Rch.go (fun _ q => XS.ifYes X0.here hx rfl (pc0 := 12) (pc' := 25) rfl (hb hby at_12) rfl ((if0 _ _).trans (tlt hc12).1) (by decide) (by decide) q) ?_
    show Rch p e below _ s₁ (mkF m 25 #[.val (.int p1), .val (.int cc), .val (.int ((cc ||| (32 : Int32)) - (97 : Int32))), .unset] [])
    refine Rch.go (fun _ q => XS.iconst X0.here hx rfl (hb hby at_25) q) ?_
    show Rch p e below _ s₁ (mkF m 26 #[.val (.int p1), .val (.int cc), .val (.int ((cc ||| (32 : Int32)) - (97 : Int32))), .unset] [(.int (0 : Int32))])
    refine Rch.go (fun _ q => XS.istoreN X0.here hx rfl (hb hby at_26) rfl (l' := #[.val (.int p1), .val (.int cc), .val (.int ((cc ||| (32 : Int32)) - (97 : Int32))), .val (.int (0 : Int32))]) rfl q) ?_
    show Rch p e below _ s₁ (mkF m 27 #[.val (.int p1), .val (.int cc), .val (.int ((cc ||| (32 : Int32)) - (97 : Int32))), .val (.int (0 : Int32))] [])
    refine Rch.go (fun _ q => XS.iloadN X0.here hx rfl (hb hby at_27) rfl  q) ?_
    show Rch p e below _ s₁ (mkF m 28 #[.val (.int p1), .val (.int cc), .val (.int ((cc ||| (32 : Int32)) - (97 : Int32))), .val (.int (0 : Int32))] [(.int cc)])
    obtain ⟨_, _, ⟨T1, L1, k1, n1⟩, -, X1, ⟨Lc1, hQ1, l1, y1, z1⟩, st1⟩ := Jvm.LawKit.callS X0 hx (y := (⟨"com/example/plantilla/plantilla/Ascii", "isLetter", "(C)Z"⟩ : MethodName)) hown (mvT hZ (hw _ (List.mem_of_getElem? (i := 0) rfl))) (mvT hZ (hw _ (List.mem_of_getElem? (i := 1) rfl))) (mvT hZ (hw _ (List.mem_of_getElem? (i := 2) rfl))) (mvT hZ (hw _ (List.mem_of_getElem? (i := 3) rfl))) (by decide) (backOf (W := 0) (rm1 l Z a0 hw [] cc h0 n0 Z0) hZ (hw _ (List.mem_of_getElem? (i := 3) rfl)) (hw _ (List.mem_of_getElem? (i := 2) rfl)) (by decide) (by decide)) (g := (mkF m 28 #[.val (.int p1), .val (.int cc), .val (.int ((cc ||| (32 : Int32)) - (97 : Int32))), .val (.int (0 : Int32))] [(.int cc)])) rfl (by rw [hml]; rfl) (argsL := [(.int cc)]) (rest := []) (lenOf own_pd0 rfl) rfl (by show 2 * 0 + _ ≤ _; exact Nat.le_of_eq rfl) (hb hby at_28) (fun _ _ => ⟨rfl, e0, (by decide : 0 + 0 ≤ _), (by decide : 0 + 0 ≤ _)⟩)
    dsimp only [Pt.U, Pt.locs, Pt.cells, Pt.slots] at X1 l1 y1 z1 st1 hQ1
    subst l1 y1 z1
    obtain ⟨rfl, Nc, ec⟩ := hQ1
    refine Rch.go st1 ?_
    show Rch p e below _ T1 (mkF m 31 #[.val (.int p1), .val (.int cc), .val (.int ((cc ||| (32 : Int32)) - (97 : Int32))), .val (.int (0 : Int32))] [(.int (own_let cc))])
    have Nd := Fr.app N0 Nc
    refine Rch.go (fun _ q => XS.iloadN X1.here hx rfl (hb hby at_31) rfl  q) ?_
    show Rch p e below _ T1 (mkF m 32 #[.val (.int p1), .val (.int cc), .val (.int ((cc ||| (32 : Int32)) - (97 : Int32))), .val (.int (0 : Int32))] [(.int (0 : Int32)), (.int (own_let cc))])
    have hq : own_let cc = (0 : Int32) := by rw [own_key cc hci.2.1 hci.2.2]; simp only [hc12, if_true, if_false]
    refine Rch.go (fun _ q => XS.icmpNo X1.here hx rfl (hb hby at_32) rfl (teq hq).2 q) ?_
    show Rch p e below _ T1 (mkF m 35 #[.val (.int p1), .val (.int cc), .val (.int ((cc ||| (32 : Int32)) - (97 : Int32))), .val (.int (0 : Int32))] [])
    refine Rch.go (fun _ q => XS.iconst X1.here hx rfl (hb hby at_35) q) ?_
    show Rch p e below _ T1 (mkF m 36 #[.val (.int p1), .val (.int cc), .val (.int ((cc ||| (32 : Int32)) - (97 : Int32))), .val (.int (0 : Int32))] [(.int (1 : Int32))])
    refine Rch.go (fun _ q => XS.goto X1.here hx rfl (pc0 := 36) (pc' := 40) rfl (hb hby at_36) (by decide) (by decide) q) ?_
    show Rch p e below _ T1 (mkF m 40 #[.val (.int p1), .val (.int cc), .val (.int ((cc ||| (32 : Int32)) - (97 : Int32))), .val (.int (0 : Int32))] [(.int (1 : Int32))])
    refine Rch.retZ X1 hx hlk Bd.returns (hb hby at_40) (by decide) (by decide) ?_
    unfold Qrm0
    exact ⟨rfl, Nd⟩
  · skip
    refine Rch.go (fun _ q => XS.ifNo X0.here hx rfl (hb hby at_12) rfl ((if0 _ _).trans (flt hc12).1) q) ?_
    show Rch p e below _ s₁ (mkF m 15 #[.val (.int p1), .val (.int cc), .val (.int ((cc ||| (32 : Int32)) - (97 : Int32))), .unset] [])
    refine Rch.go (fun _ q => XS.iloadN X0.here hx rfl (hb hby at_15) rfl  q) ?_
    show Rch p e below _ s₁ (mkF m 16 #[.val (.int p1), .val (.int cc), .val (.int ((cc ||| (32 : Int32)) - (97 : Int32))), .unset] [(.int ((cc ||| (32 : Int32)) - (97 : Int32)))])
    refine Rch.go (fun _ q => XS.bipush X0.here hx rfl (hb hby at_16) q) ?_
    show Rch p e below _ s₁ (mkF m 18 #[.val (.int p1), .val (.int cc), .val (.int ((cc ||| (32 : Int32)) - (97 : Int32))), .unset] [(.int (26 : Int32)), (.int ((cc ||| (32 : Int32)) - (97 : Int32)))])
    by_cases hc18 : ((cc ||| (32 : Int32)) - (97 : Int32)) < (26 : Int32)
    · skip
      refine Rch.go (fun _ q => XS.icmpNo X0.here hx rfl (hb hby at_18) rfl (tlt hc18).2.1 q) ?_
      show Rch p e below _ s₁ (mkF m 21 #[.val (.int p1), .val (.int cc), .val (.int ((cc ||| (32 : Int32)) - (97 : Int32))), .unset] [])
      refine Rch.go (fun _ q => XS.iconst X0.here hx rfl (hb hby at_21) q) ?_
      show Rch p e below _ s₁ (mkF m 22 #[.val (.int p1), .val (.int cc), .val (.int ((cc ||| (32 : Int32)) - (97 : Int32))), .unset] [(.int (1 : Int32))])
      refine Rch.go (fun _ q => XS.goto X0.here hx rfl (pc0 := 22) (pc' := 26) rfl (hb hby at_22) (by decide) (by decide) q) ?_
      show Rch p e below _ s₁ (mkF m 26 #[.val (.int p1), .val (.int cc), .val (.int ((cc ||| (32 : Int32)) - (97 : Int32))), .unset] [(.int (1 : Int32))])
      refine Rch.go (fun _ q => XS.istoreN X0.here hx rfl (hb hby at_26) rfl (l' := #[.val (.int p1), .val (.int cc), .val (.int ((cc ||| (32 : Int32)) - (97 : Int32))), .val (.int (1 : Int32))]) rfl q) ?_
      show Rch p e below _ s₁ (mkF m 27 #[.val (.int p1), .val (.int cc), .val (.int ((cc ||| (32 : Int32)) - (97 : Int32))), .val (.int (1 : Int32))] [])
      refine Rch.go (fun _ q => XS.iloadN X0.here hx rfl (hb hby at_27) rfl  q) ?_
      show Rch p e below _ s₁ (mkF m 28 #[.val (.int p1), .val (.int cc), .val (.int ((cc ||| (32 : Int32)) - (97 : Int32))), .val (.int (1 : Int32))] [(.int cc)])
      obtain ⟨_, _, ⟨T2, L2, k2, n2⟩, -, X2, ⟨Lc2, hQ2, l2, y2, z2⟩, st2⟩ := Jvm.LawKit.callS X0 hx (y := (⟨"com/example/plantilla/plantilla/Ascii", "isLetter", "(C)Z"⟩ : MethodName)) hown (mvT hZ (hw _ (List.mem_of_getElem? (i := 0) rfl))) (mvT hZ (hw _ (List.mem_of_getElem? (i := 1) rfl))) (mvT hZ (hw _ (List.mem_of_getElem? (i := 2) rfl))) (mvT hZ (hw _ (List.mem_of_getElem? (i := 3) rfl))) (by decide) (backOf (W := 0) (rm1 l Z a0 hw [] cc h0 n0 Z0) hZ (hw _ (List.mem_of_getElem? (i := 3) rfl)) (hw _ (List.mem_of_getElem? (i := 2) rfl)) (by decide) (by decide)) (g := (mkF m 28 #[.val (.int p1), .val (.int cc), .val (.int ((cc ||| (32 : Int32)) - (97 : Int32))), .val (.int (1 : Int32))] [(.int cc)])) rfl (by rw [hml]; rfl) (argsL := [(.int cc)]) (rest := []) (lenOf own_pd0 rfl) rfl (by show 2 * 0 + _ ≤ _; exact Nat.le_of_eq rfl) (hb hby at_28) (fun _ _ => ⟨rfl, e0, (by decide : 0 + 0 ≤ _), (by decide : 0 + 0 ≤ _)⟩)
      dsimp only [Pt.U, Pt.locs, Pt.cells, Pt.slots] at X2 l2 y2 z2 st2 hQ2
      subst l2 y2 z2
      obtain ⟨rfl, Nc, ec⟩ := hQ2
      refine Rch.go st2 ?_
      show Rch p e below _ T2 (mkF m 31 #[.val (.int p1), .val (.int cc), .val (.int ((cc ||| (32 : Int32)) - (97 : Int32))), .val (.int (1 : Int32))] [(.int (own_let cc))])
      have Nd := Fr.app N0 Nc
      refine Rch.go (fun _ q => XS.iloadN X2.here hx rfl (hb hby at_31) rfl  q) ?_
      show Rch p e below _ T2 (mkF m 32 #[.val (.int p1), .val (.int cc), .val (.int ((cc ||| (32 : Int32)) - (97 : Int32))), .val (.int (1 : Int32))] [(.int (1 : Int32)), (.int (own_let cc))])
      have hq : own_let cc = (1 : Int32) := by rw [own_key cc hci.2.1 hci.2.2]; simp only [hc12, hc18, if_true, if_false]
      refine Rch.go (fun _ q => XS.icmpNo X2.here hx rfl (hb hby at_32) rfl (teq hq).2 q) ?_
      show Rch p e below _ T2 (mkF m 35 #[.val (.int p1), .val (.int cc), .val (.int ((cc ||| (32 : Int32)) - (97 : Int32))), .val (.int (1 : Int32))] [])
      refine Rch.go (fun _ q => XS.iconst X2.here hx rfl (hb hby at_35) q) ?_
      show Rch p e below _ T2 (mkF m 36 #[.val (.int p1), .val (.int cc), .val (.int ((cc ||| (32 : Int32)) - (97 : Int32))), .val (.int (1 : Int32))] [(.int (1 : Int32))])
      refine Rch.go (fun _ q => XS.goto X2.here hx rfl (pc0 := 36) (pc' := 40) rfl (hb hby at_36) (by decide) (by decide) q) ?_
      show Rch p e below _ T2 (mkF m 40 #[.val (.int p1), .val (.int cc), .val (.int ((cc ||| (32 : Int32)) - (97 : Int32))), .val (.int (1 : Int32))] [(.int (1 : Int32))])
      refine Rch.retZ X2 hx hlk Bd.returns (hb hby at_40) (by decide) (by decide) ?_
      unfold Qrm0
      exact ⟨rfl, Nd⟩
    · skip
      refine Rch.go (fun _ q => XS.icmpYes X0.here hx rfl (pc0 := 18) (pc' := 25) rfl (hb hby at_18) rfl (flt hc18).2.1 (by decide) (by decide) q) ?_
      show Rch p e below _ s₁ (mkF m 25 #[.val (.int p1), .val (.int cc), .val (.int ((cc ||| (32 : Int32)) - (97 : Int32))), .unset] [])
      refine Rch.go (fun _ q => XS.iconst X0.here hx rfl (hb hby at_25) q) ?_
      show Rch p e below _ s₁ (mkF m 26 #[.val (.int p1), .val (.int cc), .val (.int ((cc ||| (32 : Int32)) - (97 : Int32))), .unset] [(.int (0 : Int32))])
      refine Rch.go (fun _ q => XS.istoreN X0.here hx rfl (hb hby at_26) rfl (l' := #[.val (.int p1), .val (.int cc), .val (.int ((cc ||| (32 : Int32)) - (97 : Int32))), .val (.int (0 : Int32))]) rfl q) ?_
      show Rch p e below _ s₁ (mkF m 27 #[.val (.int p1), .val (.int cc), .val (.int ((cc ||| (32 : Int32)) - (97 : Int32))), .val (.int (0 : Int32))] [])
      refine Rch.go (fun _ q => XS.iloadN X0.here hx rfl (hb hby at_27) rfl  q) ?_
      show Rch p e below _ s₁ (mkF m 28 #[.val (.int p1), .val (.int cc), .val (.int ((cc ||| (32 : Int32)) - (97 : Int32))), .val (.int (0 : Int32))] [(.int cc)])
      obtain ⟨_, _, ⟨T3, L3, k3, n3⟩, -, X3, ⟨Lc3, hQ3, l3, y3, z3⟩, st3⟩ := Jvm.LawKit.callS X0 hx (y := (⟨"com/example/plantilla/plantilla/Ascii", "isLetter", "(C)Z"⟩ : MethodName)) hown (mvT hZ (hw _ (List.mem_of_getElem? (i := 0) rfl))) (mvT hZ (hw _ (List.mem_of_getElem? (i := 1) rfl))) (mvT hZ (hw _ (List.mem_of_getElem? (i := 2) rfl))) (mvT hZ (hw _ (List.mem_of_getElem? (i := 3) rfl))) (by decide) (backOf (W := 0) (rm1 l Z a0 hw [] cc h0 n0 Z0) hZ (hw _ (List.mem_of_getElem? (i := 3) rfl)) (hw _ (List.mem_of_getElem? (i := 2) rfl)) (by decide) (by decide)) (g := (mkF m 28 #[.val (.int p1), .val (.int cc), .val (.int ((cc ||| (32 : Int32)) - (97 : Int32))), .val (.int (0 : Int32))] [(.int cc)])) rfl (by rw [hml]; rfl) (argsL := [(.int cc)]) (rest := []) (lenOf own_pd0 rfl) rfl (by show 2 * 0 + _ ≤ _; exact Nat.le_of_eq rfl) (hb hby at_28) (fun _ _ => ⟨rfl, e0, (by decide : 0 + 0 ≤ _), (by decide : 0 + 0 ≤ _)⟩)
      dsimp only [Pt.U, Pt.locs, Pt.cells, Pt.slots] at X3 l3 y3 z3 st3 hQ3
      subst l3 y3 z3
      obtain ⟨rfl, Nc, ec⟩ := hQ3
      refine Rch.go st3 ?_
      show Rch p e below _ T3 (mkF m 31 #[.val (.int p1), .val (.int cc), .val (.int ((cc ||| (32 : Int32)) - (97 : Int32))), .val (.int (0 : Int32))] [(.int (own_let cc))])
      have Nd := Fr.app N0 Nc
      refine Rch.go (fun _ q => XS.iloadN X3.here hx rfl (hb hby at_31) rfl  q) ?_
      show Rch p e below _ T3 (mkF m 32 #[.val (.int p1), .val (.int cc), .val (.int ((cc ||| (32 : Int32)) - (97 : Int32))), .val (.int (0 : Int32))] [(.int (0 : Int32)), (.int (own_let cc))])
      have hq : own_let cc = (0 : Int32) := by rw [own_key cc hci.2.1 hci.2.2]; simp only [hc12, hc18, if_true, if_false]
      refine Rch.go (fun _ q => XS.icmpNo X3.here hx rfl (hb hby at_32) rfl (teq hq).2 q) ?_
      show Rch p e below _ T3 (mkF m 35 #[.val (.int p1), .val (.int cc), .val (.int ((cc ||| (32 : Int32)) - (97 : Int32))), .val (.int (0 : Int32))] [])
      refine Rch.go (fun _ q => XS.iconst X3.here hx rfl (hb hby at_35) q) ?_
      show Rch p e below _ T3 (mkF m 36 #[.val (.int p1), .val (.int cc), .val (.int ((cc ||| (32 : Int32)) - (97 : Int32))), .val (.int (0 : Int32))] [(.int (1 : Int32))])
      refine Rch.go (fun _ q => XS.goto X3.here hx rfl (pc0 := 36) (pc' := 40) rfl (hb hby at_36) (by decide) (by decide) q) ?_
      show Rch p e below _ T3 (mkF m 40 #[.val (.int p1), .val (.int cc), .val (.int ((cc ||| (32 : Int32)) - (97 : Int32))), .val (.int (0 : Int32))] [(.int (1 : Int32))])
      refine Rch.retZ X3 hx hlk Bd.returns (hb hby at_40) (by decide) (by decide) ?_
      unfold Qrm0
      exact ⟨rfl, Nd⟩
set_option maxRecDepth 65536 in
set_option maxHeartbeats 40000000 in
theorem comes_1 {Post : Tables → Env → Array Value → State → Outcome → State → Prop} (hpost : ∀ tb e args s v u, (limb_1_1.after args s (.returned v) u = true ∧ limb_1_2.after args s (.returned v) u = true ∧ True) → FrameEnd s (.returned v) u (Jvm.fieldLocs frame_1_writes args s ++ Jvm.arrayLocs frame_1_arrays args s ++ Jvm.staticLocs frame_1_statics s) 0 0 → Post tb e args s (.returned v) u) :
    ArmFor flags0 classFile x code maxLocals ret World_1 tables_1 room_1 Calls_1 rest_1 Pre_1 Post := by
  intro l hfl _ _ p e ha hc hk s m args below hf hA hF happ hP
  obtain ⟨hcalls, hrest, hpre⟩ := hP
  obtain ⟨-, -, -, hnamed, -, -, -, hat⟩ := (Spec.applies_iff hf).mp happ
  obtain ⟨hg, hn⟩ := and_e (Cond.before_iff.mp (show (Jvm.Cond.and given_1 narrow_1).before args s = true from hpre))
  obtain ⟨hcnt, hr0⟩ := and_e hg
  obtain ⟨w0, rfl⟩ : ∃ w0 : Value, args = #[w0] := by
    have hs : args.size = 1 := by simpa [Cond.value, given_1] using hcnt
    obtain ⟨L⟩ := args
    match L, hs with
    | [w0], _ => exact ⟨w0, rfl⟩
  have hw := fun d (hd : d ∈ tables_1) => atoms_spec (ws := Jvm.Cond.code x code maxLocals ret :: tables_1) hat d (List.mem_cons_of_mem _ hd)
  obtain ⟨i0, e0⟩ := is_v hr0
  obtain rfl : w0 = (.int i0) := Option.some.inj e0
  obtain ⟨n, o, h1, h2, h3, _, L, rfl, ⟨rfl, N⟩, hq⟩ := rm0 l s _ hw tables_1 i0 s.heap s.heap.size (Nat.le_refl _) p e ha hc hk s m _ below hf ((Spec.applies_iff_loose hf).mp happ).1 ⟨rfl, State.Warmed39.refl s, rfl⟩ trivial
  refine ⟨n, _, h1, h2, h3, hpost _ _ _ _ _ _ ⟨Cond.after_iff.mpr rfl, Cond.after_iff.mpr (eq_i res_at (Term.int_eval (1)) rfl), trivial⟩ ⟨hq.1, hq.2.1, (hq.2.2.sift fun y hy => Or.inr (N y hy)).mono (by decide) (by decide)⟩⟩
theorem main_1_1 : Claimed_1_1 := comes_1 fun _ _ _ _ _ _ h hF => ⟨h.1, hF⟩
theorem main_1_2 : Claimed_1_2 := comes_1 fun _ _ _ _ _ _ h hF => ⟨h.2.1, hF⟩
end Jvm.Pilot.@@N@@
namespace Jvm.Pilot.@@N@@
open Jvm Jvm.ClassFile Sem Op Lib Jvm.Free Jvm.Stand Jvm.Pilot.@@N@@.Jvm.D
/-! MADE BY PROGRAM (witnessworld.py) out of the Statement's table words and the real class files: 9 classes; the members and pool entries that the words name. The judged class is class 1, her method 1. -/
namespace start1
open Jvm.ClassFile
def u (s : String) : CpInfo := .utf8 (stringToUtf16 s)
/-- a pool by its gaps: so many unusable entries, then the entry; so many at the end -/
def gap : Nat → List CpInfo → List CpInfo
  | 0, r => r
  | n + 1, r => .unusable :: gap n r
def poolList (es : List (Nat × CpInfo)) (last : Nat) : List CpInfo := es.foldr (fun e r => gap e.1 (e.2 :: r)) (gap last [])
def pool (es : List (Nat × CpInfo)) (last : Nat) : Array CpInfo := ⟨poolList es last⟩
def fileOf (pool : Array CpInfo) (this : Nat) (attrs : Array Attribute := #[]) (ms : Array MethodInfo := #[]) (fl : Nat := 33) (sup : Nat := 0) (ifs : Array Nat := #[]) (fds : Array FieldInfo := #[]) : ClassFile where
  minorVersion := 0
  majorVersion := 65
  constantPool := pool
  accessFlags := fl
  thisClass := this
  superClass := sup
  interfaces := ifs
  fields := fds
  methods := ms
  attributes := attrs
def plain (name : String) (sup : Option ClassId) : Class where
  name := name
  kind := .ordinary
  loader := none
  accessFlags := 33
  super := sup
  interfaces := #[]
  cf := none
  fields := #[]
  methods := #[]
  instanceTypes := #[]
  staticTypes := #[]
  resolved := #[]
  callSites := []
  init := .initialized
  statics := none
  mirror := none

def pool0 : Array CpInfo := pool [(5, u "<init>"), (0, u "()V"), (1, .class_ 10), (1, u "java/lang/Object")] 113

def k0m0 : Method := { name := "<init>", desc := "()V", sig := { parameters := [], returnType := none }, accessFlags := 1, code := none }
/-- java/lang/Object -/
def k0 : Class := { plain "java/lang/Object" none with
  accessFlags := 33
  interfaces := #[]
  cf := some (fileOf pool0 8 #[] #[{ accessFlags := 1, nameIndex := 5, descriptorIndex := 6, attributes := #[] }] 33 0 #[] #[])
  fields := #[]
  methods := #[k0m0]
  instanceTypes := #[]
  staticTypes := #[]
  resolved := Array.replicate 124 none
  statics := none }

def pool1 : Array CpInfo := pool [(2, .class_ 4), (1, u "java/lang/Object"), (0, u "<init>"), (0, u "()V"), (0, .methodref 8 9), (0, .class_ 10), (0, .nameAndType 11 12), (0, u "com/example/plantilla/plantilla/Ascii"), (0, u "isLetter"), (0, u "(C)Z"), (0, .class_ 14), (0, u "com/example/plantilla/plantilla/AsciiIsLetterPinLaw"), (2, u "law"), (0, u "(I)Z")] 3

def k1m0 : Method := { name := "<init>", desc := "()V", sig := { parameters := [], returnType := none }, accessFlags := 2, code := none }
def k1c1 : Code := { maxStack := 2, maxLocals := 4, code := code, exceptionTable := #[], attributes := #[] }
def k1m1 : Method := { name := "law", desc := "(I)Z", sig := { parameters := [.int], returnType := some .boolean }, accessFlags := 9, code := some k1c1 }
/-- com/example/plantilla/plantilla/AsciiIsLetterPinLaw -/
def k1 : Class := { plain "com/example/plantilla/plantilla/AsciiIsLetterPinLaw" (some 0) with
  accessFlags := 49
  interfaces := #[]
  cf := some (fileOf pool1 13 #[] #[{ accessFlags := 2, nameIndex := 5, descriptorIndex := 6, attributes := #[] }, { accessFlags := 9, nameIndex := 17, descriptorIndex := 18, attributes := #[] }] 49 2 #[] #[])
  fields := #[]
  methods := #[k1m0, k1m1]
  instanceTypes := #[]
  staticTypes := #[]
  resolved := Array.replicate 22 none
  statics := none }

def pool2 : Array CpInfo := pool [(2, .class_ 4), (1, u "java/lang/Object"), (0, u "<init>"), (0, u "()V"), (1, .class_ 10), (1, u "com/example/plantilla/plantilla/Ascii"), (0, u "isLetter"), (0, u "(C)Z")] 41

def k2m0 : Method := { name := "<init>", desc := "()V", sig := { parameters := [], returnType := none }, accessFlags := 2, code := none }
def k2c1 : Code := { maxStack := 2, maxLocals := 1, code := prog_1_method_2_code, exceptionTable := #[], attributes := #[] }
def k2m1 : Method := { name := "isLetter", desc := "(C)Z", sig := { parameters := [.char], returnType := some .boolean }, accessFlags := 8, code := some k2c1 }
/-- com/example/plantilla/plantilla/Ascii -/
def k2 : Class := { plain "com/example/plantilla/plantilla/Ascii" (some 0) with
  accessFlags := 32
  interfaces := #[]
  cf := some (fileOf pool2 8 #[] #[{ accessFlags := 2, nameIndex := 5, descriptorIndex := 6, attributes := #[] }, { accessFlags := 8, nameIndex := 11, descriptorIndex := 12, attributes := #[] }] 32 2 #[] #[])
  fields := #[]
  methods := #[k2m0, k2m1]
  instanceTypes := #[]
  staticTypes := #[]
  resolved := Array.replicate 54 none
  statics := none }

def pool3 : Array CpInfo := pool [(1, u "java/lang/Cloneable"), (0, .class_ 1), (0, u "java/lang/Object"), (0, .class_ 3)] 3

/-- java/lang/Cloneable -/
def k3 : Class := { plain "java/lang/Cloneable" (some 0) with
  accessFlags := 1537
  interfaces := #[]
  cf := some (fileOf pool3 2 #[] #[] 1537 4 #[] #[])
  fields := #[]
  methods := #[]
  instanceTypes := #[]
  staticTypes := #[]
  resolved := Array.replicate 8 none
  statics := none }

def pool4 : Array CpInfo := pool [(1, u "java/io/Serializable"), (0, .class_ 1), (0, u "java/lang/Object"), (0, .class_ 3)] 3

/-- java/io/Serializable -/
def k4 : Class := { plain "java/io/Serializable" (some 0) with
  accessFlags := 1537
  interfaces := #[]
  cf := some (fileOf pool4 2 #[] #[] 1537 4 #[] #[])
  fields := #[]
  methods := #[]
  instanceTypes := #[]
  staticTypes := #[]
  resolved := Array.replicate 8 none
  statics := none }

/-- the primitive byte -/
def k5 : Class := { plain "byte" none with kind := .primitive 'B', accessFlags := 0x411 }
/-- [B -/
def k6 : Class := { plain "[B" (some 0) with kind := .array 5 .byte, interfaces := #[3, 4], accessFlags := 1041 }

/-- the primitive int -/
def k7 : Class := { plain "int" none with kind := .primitive 'I', accessFlags := 0x411 }
/-- [I -/
def k8 : Class := { plain "[I" (some 0) with kind := .array 7 .int, interfaces := #[3, 4], accessFlags := 1041 }

def heap : Heap := #[]
def classes : Array Class := #[k0, k1, k2, k3, k4, k5, k6, k7, k8]
def interned : List (Array UInt16 × Addr) := []
def slotsUsed : Nat := 0
def theMethod : MethodId := ⟨1, 1⟩
def args0 : Array Value := #[.int 77]
def aboutOver (below : List Frame) : State where
  vm := { classes := classes, interned := interned.toArray }
  heap := heap
  slotsUsed := slotsUsed
  threads := #[{ frames := .invoking theMethod args0 :: below }]
def below0 : List Frame := [.native { method := ⟨0, 0⟩, args := #[] }]
def about1 : State := aboutOver below0
def p0 : Program := .bare "" "" ""
def e0 : Env := launch0.env 0 0 0
theorem w_frames : about1.frames = Frame.invoking theMethod args0 :: below0 := rfl
set_option maxRecDepth 65536 in
theorem w_args : argsFit about1.vm theMethod args0 = true := by decide +kernel
set_option maxRecDepth 65536 in
theorem w_heap : heapFits about1 = true := by decide +kernel
set_option maxRecDepth 65536 in
theorem w_runnable : about1.curStatus? = some .runnable := by decide +kernel
set_option maxRecDepth 65536 in
theorem w_alone : about1.alone = true := by decide +kernel
set_option maxRecDepth 65536 in
theorem w_named : about1.methodNamed? x = some theMethod := by decide +kernel
set_option maxRecDepth 65536 in
theorem w_hears : about1.hears theMethod below0 = true := by decide +kernel
set_option maxRecDepth 65536 in
theorem w_ripe : about1.ripe theMethod args0 below0 = true := by decide +kernel
theorem w_running : about1.status = .running := rfl
set_option maxRecDepth 65536 in
theorem w_room : about1.hasRoom e0.platform room_1 = true :=
  launch0.hasRoom_least _ room_1 (by decide +kernel) (by decide +kernel) (by decide +kernel) (by decide +kernel) (by decide +kernel) (by decide +kernel)
theorem allAtoms_all (ts : List Jvm.Cond) (a : Array Jvm.Value) (st : Jvm.State) : (allAtoms ts).before a st = ts.all (fun c => c.before a st) := by
  induction ts with
  | nil => rfl
  | cons c t ih =>
    show (Jvm.Cond.and c (allAtoms t)).before a st = _
    rw [Jvm.Cond.before_and, ih, List.all_cons]
def words1 : List Jvm.Cond := Jvm.Cond.code x code maxLocals ret :: tables_1
/-- a 'code' word, met by the world's own term for the bytes: nothing is compared byte by byte -/
theorem code_word {y : MethodName} {bytes : ByteArray} {mx : Nat} {rt : Option FieldType} {a : Array Value} {s : State} {m : MethodId} {meth : Method} {c : Code} (h1 : s.methodNamed? y = some m) (h2 : s.vm.method? m = some meth) (h3 : meth.code = some c) (h4 : c.code = bytes)
    (h5 : (c.maxLocals == mx && c.exceptionTable.isEmpty && decide (c.maxStack ≤ mostOperands) && decide (meth.sig.returnType = rt) && !meth.locks && decide (parseMethodDescriptor y.desc = some meth.sig)) = true) : (Jvm.Cond.code y bytes mx rt).before a s = true := by
  simp only [Bool.and_eq_true, beq_iff_eq, Bool.not_eq_true', decide_eq_true_eq] at h5
  obtain ⟨⟨⟨⟨⟨g1, g2⟩, g3⟩, g4⟩, g5⟩, g6⟩ := h5
  simp [Cond.before, Cond.holds, Cond.value, h1, h2, h3, h4, g1, g2, g3, g4, g5, g6]
def isCode : Jvm.Cond → Bool
  | .code _ _ _ _ => true
  | _ => false
theorem all_split {L : List Jvm.Cond} {P : Jvm.Cond → Bool} (h1 : L.all (fun c => isCode c || P c) = true) (h2 : ∀ c ∈ L.filter isCode, P c = true) : L.all P = true := by
  refine List.all_eq_true.mpr fun c hc => ?_
  have h := List.all_eq_true.mp h1 c hc
  rcases Bool.eq_false_or_eq_true (isCode c) with hi | hi
  · exact h2 c (List.mem_filter.mpr ⟨hc, hi⟩)
  · simpa [hi] using h
set_option maxRecDepth 65536 in
theorem w_c0 : (Jvm.Cond.code x code maxLocals ret).before args0 about1 = true := code_word (m := ⟨1, 1⟩) (meth := k1m1) (c := k1c1) (by decide +kernel) rfl rfl rfl (by decide +kernel)
set_option maxRecDepth 65536 in
theorem w_c1 : (Jvm.Cond.code ({ cls := "com/example/plantilla/plantilla/Ascii", name := "isLetter", desc := "(C)Z" } : Jvm.MethodName) prog_1_method_2_code (1 : Nat) (Option.some Jvm.ClassFile.FieldType.boolean)).before args0 about1 = true := code_word (m := ⟨2, 1⟩) (meth := k2m1) (c := k2c1) (by decide +kernel) rfl rfl rfl (by decide +kernel)
def codes1 : List Jvm.Cond := [Jvm.Cond.code x code maxLocals ret, Jvm.Cond.code ({ cls := "com/example/plantilla/plantilla/Ascii", name := "isLetter", desc := "(C)Z" } : Jvm.MethodName) prog_1_method_2_code (1 : Nat) (Option.some Jvm.ClassFile.FieldType.boolean)]
set_option maxRecDepth 65536 in
theorem codes_eq : words1.filter isCode = codes1 := rfl
theorem w_codes : ∀ c ∈ words1.filter isCode, c.before args0 about1 = true := by
  rw [codes_eq]
  intro c hc
  simp only [codes1, List.mem_cons, List.not_mem_nil, or_false] at hc
  rcases hc with rfl | rfl
  · exact w_c0
  · exact w_c1
set_option maxRecDepth 65536 in
theorem w_t1 : words1.all (fun c => isCode c || c.before args0 about1) = true := by decide +kernel
theorem w_tables : (allAtoms (Jvm.Cond.code x code maxLocals ret :: tables_1)).before args0 about1 = true := by
  rw [allAtoms_all]
  show words1.all (fun c => c.before args0 about1) = true
  refine all_split ?_ w_codes
  rw [w_t1]
set_option maxRecDepth 65536 in
theorem w_case : (Jvm.Cond.and given_1 narrow_1).before args0 about1 = true := by decide +kernel
theorem w_applies : (headSpec (Jvm.Cond.code x code maxLocals ret :: tables_1) room_1).applies x e0.platform about1 = true :=
  (Spec.applies_iff w_frames).mpr ⟨w_running, w_runnable, w_alone, w_named, w_hears, w_ripe, w_room, w_tables⟩
theorem atStart : AtStart classFile x code maxLocals ret World_1 tables_1 room_1 Calls_1 rest_1 Pre_1 launch0 p0 e0 about1 theMethod args0 below0 :=
  ⟨lists_1, trivial, launch0.admits_env _ _ _, launch0.least_env, fairChoices_fair.cas, fairChoices_fair.clock, w_frames, w_args, w_heap, w_applies, trivial, trivial, w_case⟩
end start1
theorem witness_1 : WitnessClaimed_1 := ⟨start1.p0, start1.e0, start1.about1, start1.theMethod, start1.args0, start1.below0, start1.atStart⟩
end Jvm.Pilot.@@N@@
