import JvmDerived
import JvmDerived.Pilot.@@N@@Statement
import JvmDerived.Pilot.@@N@@Code
set_option linter.unusedVariables false
set_option linter.unusedSimpArgs false
namespace Jvm.OwnKit
open Sem ClassFile Op Lib Jvm.Stand Jvm.Free Jvm.LawKit Jvm.RoadKit
/-! A small layer of my own over the library's laws: 'Goes': from this frame the body comes to its end; each law turned so that it reads backwards. -/
def Goes (tb : Tables) (e : Env) (below : List Frame) (Φ : Outcome → State → Prop) (T : State) (f : JFrame) : Prop :=
  ∃ s₂ o, Steps tb e below (T.setTop f) s₂ ∧ s₂.status = .running ∧ Ended s₂ below o ∧ Φ o s₂
def Fine (s : State) (n0 : Nat) (Q : Option Value → Heap → Prop) (rc rs : Nat) (o : Outcome) (U : State) : Prop :=
  ∃ v L, o = .returned v ∧ (Fr n0 L ∧ Q v U.heap) ∧ FrameEnd s o U L rc rs
def Base (p : Program) (s : State) (m : MethodId) (meth : Method) (c : Code) (Z : State) (y : MethodName) (bytes : ByteArray) (maxL : Nat) (ret : Option FieldType) : Prop :=
  p.tables.exec = Jvm.exec ∧ Z.Warmed39 s.vm ∧ c.code = bytes ∧ c.maxLocals = maxL ∧ s.vm.findClass y.cls = some m.cls ∧ meth.name = y.name ∧ meth.sig.returnType = ret ∧ meth.locks = false
def Sd (p : Program) (l : Launch) (e : Env) (R : Room) (s : State) (m : MethodId) (args : Array Value) (below : List Frame) (meth : Method) (c : Code) (T : State) (h : Heap) (n0 cells slots : Nat) : Prop :=
  ∃ locs, Stand p l e R s m args below meth c T locs cells slots ∧ T.heap = h ∧ Fr n0 locs ∧ n0 ≤ s.heap.size
def Con (l : Launch) (Z : State) (y : MethodName) (bytes : ByteArray) (maxL : Nat) (ret : Option FieldType) (rm : Room) (as' : Array Value) (h0 : Heap) (n0 : Nat) (Q : Option Value → Heap → Prop) : Prop :=
  n0 ≤ h0.size → ∀ ws : List Cond, MetFree l y (head1 (Cond.code y bytes maxL ret :: ws) rm) (fun a U => a = as' ∧ Z.Warmed39 U.vm ∧ U.heap = h0) (fun _ _ _ _ _ => True) (fun _ U o U' => ∃ v L, o = .returned v ∧ (Fr n0 L ∧ Q v U'.heap) ∧ FrameEnd U o U' L rm.cells rm.slots)
/-! a condition as 1 or 0 -/
def bi (P : Prop) [Decidable P] : Int32 := if P then 1 else 0
theorem bi_pos {P : Prop} [Decidable P] (h : P) : bi P = 1 := if_pos h
theorem bi_neg {P : Prop} [Decidable P] (h : ¬ P) : bi P = 0 := if_neg h
theorem bi_ne {P : Prop} [Decidable P] (h : P) : ¬ bi P = 0 := by rw [bi_pos h]; decide
theorem bi_congr {P P' : Prop} [Decidable P] [Decidable P'] (h : P ↔ P') : bi P = bi P' := by by_cases q : P <;> simp [bi, q, h.mp, ← h]
theorem bi_one {P : Prop} [Decidable P] : bi P = 1 ↔ P := by by_cases q : P <;> simp [bi, q]
theorem bi_zero {P : Prop} [Decidable P] : bi P = 0 ↔ ¬ P := by by_cases q : P <;> simp [bi, q]
theorem bi_inj {P P' : Prop} [Decidable P] [Decidable P'] : bi P = bi P' ↔ (P ↔ P') := by by_cases q : P <;> by_cases q' : P' <;> simp [bi, q, q']
theorem bi_or {P : Prop} [Decidable P] : bi P = 0 ∨ bi P = 1 := by by_cases q : P <;> simp [bi, q]
theorem nar_bi {P : Prop} [Decidable P] : nar .boolean (bi P) = bi P := by by_cases q : P <;> simp [bi, q, nar]
theorem fits_bi {P : Prop} [Decidable P] : fits .boolean (.int (bi P)) = true := by by_cases q : P <;> simp [bi, q] <;> decide
theorem narrow_bi {P : Prop} [Decidable P] : narrow .boolean (.int (bi P)) = .int (bi P) := by by_cases q : P <;> simp [bi, q] <;> rfl
section Lay
variable {p : Program} {l : Launch} {e : Env} {R : Room} {s : State} {m : MethodId} {args : Array Value} {below : List Frame} {meth : Method} {c : Code} {T : State} {h : Heap} {n0 cells slots : Nat} {Z : State} {a0 : Array Value} {Φ : Outcome → State → Prop} {y0 : MethodName} {bytes0 : ByteArray} {maxL0 : Nat} {ret0 : Option FieldType} {pc : Nat} {Ls : Array Slot} {st rest : List Value}
theorem Goes.go {tb : Tables} {T' : State} {f f' : JFrame} (k : ∀ t, Steps tb e below (T'.setTop f') t → Steps tb e below (T.setTop f) t) (g : Goes tb e below Φ T' f') : Goes tb e below Φ T f := by
  obtain ⟨s2, o, h1, h2⟩ := g
  exact ⟨s2, o, k _ h1, h2⟩
theorem Goes.dia {tb : Tables} {P : Prop} [Decidable P] {f : JFrame} {mk : Int32 → JFrame} (h1 : P → Goes tb e below Φ T (mk 1) → Goes tb e below Φ T f) (h0 : ¬ P → Goes tb e below Φ T (mk 0) → Goes tb e below Φ T f) (k : Goes tb e below Φ T (mk (bi P))) : Goes tb e below Φ T f := by
  by_cases q : P
  · rw [bi_pos q] at k; exact h1 q k
  · rw [bi_neg q] at k; exact h0 q k
theorem Goes.cast {tb : Tables} {f f' : JFrame} (q : f = f') (g : Goes tb e below Φ T f') : Goes tb e below Φ T f := q ▸ g
theorem Sd.here (S : Sd p l e R s m args below meth c T h n0 cells slots) : At T m c below := by obtain ⟨_, X, -⟩ := S; exact X.here
theorem Sd.le (S : Sd p l e R s m args below meth c T h n0 cells slots) : n0 ≤ h.size := by
  obtain ⟨_, X, e, -, q⟩ := S
  have h1 := X.same.2.1
  have h2 : s.heap.size ≤ T.heap.size := h1
  rw [e] at h2
  exact Nat.le_trans q h2
theorem Base.x (B : Base p s m meth c Z y0 bytes0 maxL0 ret0) : p.tables.exec = Jvm.exec := B.1
theorem Base.d (B : Base p s m meth c Z y0 bytes0 maxL0 ret0) {r : Except DecodeError (Instr × Nat)} (hd : decode bytes0 pc = r) : decode c.code pc = r := B.2.2.1 ▸ hd
theorem Con.body {y : MethodName} {bytes : ByteArray} {maxL : Nat} {ret : Option FieldType} {rm : Room} {as' : Array Value} {h0 : Heap} {Q : Option Value → Heap → Prop} (hpl : plainFor y = true)
    (k : ∀ (p : Program) (e : Env) (s : State) (m : MethodId) (below : List Frame) (meth : Method) (c : Code) (T : State), Base p s m meth c Z y bytes maxL ret → Sd p l e rm s m as' below meth c T h0 n0 0 0 → Goes p.tables e below (Fine s n0 Q rm.cells rm.slots) T (entryFrame m as' maxL)) :
    Con l Z y bytes maxL ret rm as' h0 n0 Q := by
  intro hn ws
  refine MetFree.of_bodySF hpl hisR ?_
  intro p e s m args below meth c s₁ Bd hml0 hP hK
  obtain ⟨rfl, hZ, hh⟩ := hP
  have e0 : s₁.heap = h0 := by rw [← hh, Bd.state]; rfl
  exact k p e s m below meth c s₁ ⟨Bd.exec, hZ, Bd.bytes, hml0, findClass_of_methodNamed Bd.named, (name_of_methodNamed Bd.named Bd.method).1, Bd.returns, Bd.notSynchronized⟩ ⟨[], Stand.of_body Bd, e0, Fr.nil n0, by rw [hh]; exact hn⟩
theorem Goes.acmp {cd : ACond} {x y : Value} {o : Int} {pc' : Nat} {same : Bool} (S : Sd p l e R s m args below meth c T h n0 cells slots) (B : Base p s m meth c Z y0 bytes0 maxL0 ret0) (h1 : x.isRef = true) (h2 : y.isRef = true) (hd : decode bytes0 pc = .ok (.if_acmp cd o, 3)) (hq : decide (x = y) = same) (ho : 0 ≤ (pc : Int) + o) (hp : pc' = if acV cd same = true then ((pc : Int) + o).toNat else pc + 3)
    (k : Goes p.tables e below Φ T (mkF m pc' Ls rest)) : Goes p.tables e below Φ T (mkF m pc Ls (y :: x :: rest)) := by
  obtain ⟨locs, X, eT, N, hn⟩ := S
  exact Goes.go (fun t => RoadKit.acmp X B.1 (g := mkF m pc Ls (y :: x :: rest)) rfl h1 h2 (pc0 := pc) (pc' := pc') (same := same) rfl (B.d hd) rfl hq ho hp) k
theorem Goes.pop2L {z : Int64} (S : Sd p l e R s m args below meth c T h n0 cells slots) (B : Base p s m meth c Z y0 bytes0 maxL0 ret0) (hd : decode bytes0 pc = .ok (.pop2, 1)) (k : Goes p.tables e below Φ T (mkF m (pc + 1) Ls rest)) : Goes p.tables e below Φ T (mkF m pc Ls (.long z :: rest)) := by
  obtain ⟨locs, X, eT, N, hn⟩ := S
  refine Goes.go (fun t kk => ?_) k
  have hx := B.1
  have hd' := B.d hd
  show Steps p.tables e below (T.setTop { method := m, pc := pc, locals := Ls, stack := _ :: rest, locked := none }) _
  jvm_step X.here [X.here.top, hx, hd', Value.category]
  exact kk
theorem Goes.irem {x y : Int32} (S : Sd p l e R s m args below meth c T h n0 cells slots) (B : Base p s m meth c Z y0 bytes0 maxL0 ret0) (hd : decode bytes0 pc = .ok (.irem, 1)) (hy : y ≠ 0) (k : Goes p.tables e below Φ T (mkF m (pc + 1) Ls (.int (x % y) :: rest))) : Goes p.tables e below Φ T (mkF m pc Ls (.int y :: .int x :: rest)) := by
  obtain ⟨locs, X, eT, N, hn⟩ := S
  exact Goes.go (fun t => RoadKit.iremM X B.1 (g := mkF m pc Ls (.int y :: .int x :: rest)) rfl (B.d hd) rfl hy) k
theorem Goes.lrem {x y : Int64} (S : Sd p l e R s m args below meth c T h n0 cells slots) (B : Base p s m meth c Z y0 bytes0 maxL0 ret0) (hd : decode bytes0 pc = .ok (.lrem, 1)) (hy : y ≠ 0) (k : Goes p.tables e below Φ T (mkF m (pc + 1) Ls (.long (x % y) :: rest))) : Goes p.tables e below Φ T (mkF m pc Ls (.long y :: .long x :: rest)) := by
  obtain ⟨locs, X, eT, N, hn⟩ := S
  refine Goes.go (fun t kk => XS.lrem X.here B.1 (g := mkF m pc Ls (.long y :: .long x :: rest)) rfl (B.d hd) rfl hy ?_) k
  rw [lrem_mod]
  exact kk
/-! the ends -/
section Ends
variable {Q : Option Value → Heap → Prop} {rc rs : Nat}
theorem Goes.retV (S : Sd p l e R s m args below meth c T h n0 cells slots) (B : Base p s m meth c Z y0 bytes0 maxL0 none) (hd : decode bytes0 pc = .ok (.return_, 1)) (hc : cells ≤ rc) (hs : slots ≤ rs) (hq : Q none h) :
    Goes p.tables e below (Fine s n0 Q rc rs) T (mkF m pc Ls []) := by
  obtain ⟨locs, X, eT, N, -⟩ := S
  obtain ⟨fs, hr, hrun, hended, hW, hsame⟩ := X.leave (v := none) (fun _ => rfl) B.2.2.2.2.2.2.2
  subst eT
  exact ⟨_, _, X.returnOut B.1 B.2.2.2.2.2.2.1 (B.d hd) hr, hrun, hended, _, _, rfl, ⟨N, hq⟩, ⟨_, rfl⟩, hW, hsame.mono hc hs⟩
theorem Goes.retN {t : FieldType} {z : Int32} (S : Sd p l e R s m args below meth c T h n0 cells slots) (B : Base p s m meth c Z y0 bytes0 maxL0 (some t)) (ht : t = .boolean ∨ t = .byte ∨ t = .char ∨ t = .short) (hd : decode bytes0 pc = .ok (.ireturn, 1)) (hc : cells ≤ rc) (hs : slots ≤ rs) (hq : Q (some (.int (nar t z))) h) :
    Goes p.tables e below (Fine s n0 Q rc rs) T (mkF m pc Ls (.int z :: rest)) := by
  obtain ⟨locs, X, eT, N, -⟩ := S
  obtain ⟨fs, hr, hrun, hended, hW, hsame⟩ := X.leave (v := some (.int (nar t z))) (fun h => by rw [B.2.2.2.2.2.2.1] at h; cases h) B.2.2.2.2.2.2.2
  subst eT
  exact ⟨_, _, RoadKit.retN X B.1 B.2.2.2.2.2.2.1 ht (B.d hd) hr, hrun, hended, _, _, rfl, ⟨N, hq⟩, ⟨_, rfl⟩, hW, hsame.mono hc hs⟩
theorem Goes.retI {z : Int32} (S : Sd p l e R s m args below meth c T h n0 cells slots) (B : Base p s m meth c Z y0 bytes0 maxL0 (some .int)) (hd : decode bytes0 pc = .ok (.ireturn, 1)) (hc : cells ≤ rc) (hs : slots ≤ rs) (hq : Q (some (.int z)) h) :
    Goes p.tables e below (Fine s n0 Q rc rs) T (mkF m pc Ls (.int z :: rest)) := by
  obtain ⟨locs, X, eT, N, -⟩ := S
  obtain ⟨fs, hr, hrun, hended, hW, hsame⟩ := X.leave (v := some (.int z)) (fun h => by rw [B.2.2.2.2.2.2.1] at h; cases h) B.2.2.2.2.2.2.2
  subst eT
  refine ⟨_, _, ?_, hrun, hended, _, _, rfl, ⟨N, hq⟩, ⟨_, rfl⟩, hW, hsame.mono hc hs⟩
  have hm' : T.vm.method? m = some meth := X.method'
  have hn : narrow .int (.int z) = .int z := rfl
  have hx := B.1
  have hret := B.2.2.2.2.2.2.1
  have hd' := B.d hd
  show Steps p.tables e below (T.setTop { method := m, pc := pc, locals := Ls, stack := _ :: rest, locked := none }) _
  jvm_step X.here [X.here.top, hx, hd', hm', hret, hn]
  first | (intro acts; rw [hr _ acts rfl rfl rfl]) | rw [hr _ _ rfl rfl rfl]
  exact Steps.refl _
theorem Goes.retL {z : Int64} (S : Sd p l e R s m args below meth c T h n0 cells slots) (B : Base p s m meth c Z y0 bytes0 maxL0 (some .long)) (hd : decode bytes0 pc = .ok (.lreturn, 1)) (hc : cells ≤ rc) (hs : slots ≤ rs) (hq : Q (some (.long z)) h) :
    Goes p.tables e below (Fine s n0 Q rc rs) T (mkF m pc Ls (.long z :: rest)) := by
  obtain ⟨locs, X, eT, N, -⟩ := S
  obtain ⟨fs, hr, hrun, hended, hW, hsame⟩ := X.leave (v := some (.long z)) (fun h => by rw [B.2.2.2.2.2.2.1] at h; cases h) B.2.2.2.2.2.2.2
  subst eT
  refine ⟨_, _, ?_, hrun, hended, _, _, rfl, ⟨N, hq⟩, ⟨_, rfl⟩, hW, hsame.mono hc hs⟩
  have hm' : T.vm.method? m = some meth := X.method'
  have hx := B.1
  have hret := B.2.2.2.2.2.2.1
  have hd' := B.d hd
  show Steps p.tables e below (T.setTop { method := m, pc := pc, locals := Ls, stack := _ :: rest, locked := none }) _
  jvm_step X.here [X.here.top, hx, hd', hm', hret, narrow]
  first | (intro acts; rw [hr _ acts rfl rfl rfl]) | rw [hr _ _ rfl rfl rfl]
  exact Steps.refl _
theorem Goes.retA {b : Addr} {t : FieldType} (S : Sd p l e R s m args below meth c T h n0 cells slots) (B : Base p s m meth c Z y0 bytes0 maxL0 (some t)) (ht : t.isReference = true) (hd : decode bytes0 pc = .ok (.areturn, 1)) (hc : cells ≤ rc) (hs : slots ≤ rs) (hq : Q (some (.ref b)) h) :
    Goes p.tables e below (Fine s n0 Q rc rs) T (mkF m pc Ls (.ref b :: rest)) := by
  obtain ⟨locs, X, eT, N, -⟩ := S
  obtain ⟨fs, hr, hrun, hended, hW, hsame⟩ := X.leave (v := some (.ref b)) (fun h => by rw [B.2.2.2.2.2.2.1] at h; cases h) B.2.2.2.2.2.2.2
  subst eT
  refine ⟨_, _, ?_, hrun, hended, _, _, rfl, ⟨N, hq⟩, ⟨_, rfl⟩, hW, hsame.mono hc hs⟩
  have hm' : T.vm.method? m = some meth := X.method'
  have hx := B.1
  have hret := B.2.2.2.2.2.2.1
  have hd' := B.d hd
  show Steps p.tables e below (T.setTop { method := m, pc := pc, locals := Ls, stack := _ :: rest, locked := none }) _
  jvm_step X.here [X.here.top, hx, hd', hm', hret, Value.isRef, ht]
  first | (intro acts; rw [hr _ acts rfl rfl rfl]) | rw [hr _ _ rfl rfl rfl]
  exact Steps.refl _
end Ends
/-! fields and objects -/
theorem Goes.getF {O n d : String} {index : Nat} {a : Addr} {v : Value} (S : Sd p l e R s m args below meth c T h n0 cells slots) (B : Base p s m meth c Z y0 bytes0 maxL0 ret0) (w : (Cond.fieldLink y0.cls index O n d).before a0 Z = true) (F : Fld Z h a O n d v) (hd : decode bytes0 pc = .ok (.getfield index, 3))
    (k : ∀ T', Sd p l e R s m args below meth c T' h n0 cells slots → Goes p.tables e below Φ T' (mkF m (pc + 3) Ls (v :: rest))) : Goes p.tables e below Φ T (mkF m pc Ls (.ref a :: rest)) := by
  obtain ⟨locs, X, eT, N, hn⟩ := S
  obtain ⟨T', X', e', stp⟩ := RoadKit.getF X B.1 B.2.1 B.2.2.2.2.1 (host := "") (Or.inl w) Via.refl eT F (g := mkF m pc Ls (.ref a :: rest)) rfl rfl (B.d hd)
  exact Goes.go stp (k T' ⟨locs, X', e', N, hn⟩)
theorem Goes.putF {O n d C : String} {index kk : Nat} {ty : FieldType} {a : Addr} {v v' old : Value} (S : Sd p l e R s m args below meth c T h n0 cells slots) (B : Base p s m meth c Z y0 bytes0 maxL0 ret0) (w : (Cond.fieldLink y0.cls index O n d).before a0 Z = true) (F : Fld Z h a O n d old) (E : Exa Z h a C)
    (L : (Cond.lays C O n d).before a0 Z = true ∨ ((Cond.laysFinal C O n d).before a0 Z = true ∧ y0.cls = O ∧ y0.name = "<init>")) (wi : (Cond.instantiable C kk).before a0 Z = true) (hty : parseFieldDescriptor d = some ty) (hnr : narrow ty v = v') (hf : fits ty v' = true) (ga : n0 ≤ a) (hd : decode bytes0 pc = .ok (.putfield index, 3))
    (k : ∀ T' h', Sd p l e R s m args below meth c T' h' n0 cells slots → Wr h h' a (RoadKit.slotOf Z O n d) v' → Goes p.tables e below Φ T' (mkF m (pc + 3) Ls rest)) : Goes p.tables e below Φ T (mkF m pc Ls (v :: .ref a :: rest)) := by
  obtain ⟨locs, X, eT, N, hn⟩ := S
  obtain ⟨T', h', X', e', W, stp⟩ := RoadKit.putFN X B.1 B.2.1 B.2.2.2.2.1 w Via.refl eT F E (L.imp id fun q => ⟨q.1, q.2.1, B.2.2.2.2.2.1.trans q.2.2⟩) wi hty hnr hf (g := mkF m pc Ls (v :: .ref a :: rest)) rfl rfl (B.d hd)
  exact Goes.go stp (k T' h' ⟨_, X', e', Fr.snoc X' N ga, hn⟩ W)
theorem Goes.newO {C : String} {index nn : Nat} (S : Sd p l e R s m args below meth c T h n0 cells slots) (B : Base p s m meth c Z y0 bytes0 maxL0 ret0) (w : (Cond.classLink y0.cls index C).before a0 Z = true) (wi : (Cond.instantiable C nn).before a0 Z = true) (wz : (Cond.initialized C).before a0 Z = true) (hd : decode bytes0 pc = .ok (.new index, 3)) (hc : cells + 1 ≤ R.cells) (hl : slots + nn ≤ R.slots)
    (k : ∀ T' h' b, Sd p l e R s m args below meth c T' h' n0 (cells + 1) (slots + nn) → Ext h h' → b = h.size → n0 ≤ b → Exa Z h' b C → (∀ {O nm d : String} {ty : FieldType}, Laid Z a0 C O nm d → parseFieldDescriptor d = some ty → Fld Z h' b O nm d (defaultValue ty)) → Goes p.tables e below Φ T' (mkF m (pc + 3) Ls (.ref b :: st))) :
    Goes p.tables e below Φ T (mkF m pc Ls st) := by
  have hle := S.le
  obtain ⟨locs, X, eT, N, hn⟩ := S
  obtain ⟨T', h', X', e', E, A, D, -, stp⟩ := RoadKit.newO X B.1 B.2.1 B.2.2.2.2.1 w wi wz eT (g := mkF m pc Ls st) rfl (B.d hd) hc hl
  exact Goes.go stp (k T' h' h.size ⟨locs, X', e', N, hn⟩ E rfl hle A D)
theorem Goes.initO {index : Nat} {a : Addr} {W : Nat} (S : Sd p l e R s m args below meth c T h n0 cells slots) (B : Base p s m meth c Z y0 bytes0 maxL0 ret0) (w1 : (Cond.methodLink y0.cls index Lib.objectInit).before a0 Z = true) (w2 : (Cond.instanceMethod Lib.objectInit).before a0 Z = true) (w3 : (Cond.code Lib.objectInit ⟨#[0xb1]⟩ 1 none).before a0 Z = true)
    (hd : decode bytes0 pc = .ok (.invokespecial index, 3)) (hsz : Ls.size = maxL0) (hf : 1 ≤ R.frames) (hW : 2 * 0 + (rest.map fun v => v.category).sum ≤ W) (hl : W + 12 ≤ R.locals)
    (k : ∀ T', Sd p l e R s m args below meth c T' h n0 cells slots → Goes p.tables e below Φ T' (mkF m (pc + 3) Ls rest)) : Goes p.tables e below Φ T (mkF m pc Ls (.ref a :: rest)) := by
  obtain ⟨locs, X, eT, N, hn⟩ := S
  obtain ⟨T', X', e', stp⟩ := RoadKit.initO X B.1 B.2.1 B.2.2.2.2.1 w1 w2 w3 eT (g := mkF m pc Ls (.ref a :: rest)) rfl (by rw [B.2.2.2.1]; exact hsz) rfl (B.d hd) hf hW hl
  exact Goes.go stp (k T' ⟨locs, X', e', N, hn⟩)
theorem Goes.ldcI {index : Nat} {v : Int32} (S : Sd p l e R s m args below meth c T h n0 cells slots) (B : Base p s m meth c Z y0 bytes0 maxL0 ret0) (w : (Cond.constant y0.cls index v).before a0 Z = true) (hd : decode bytes0 pc = .ok (.ldc index, 2)) (k : Goes p.tables e below Φ T (mkF m (pc + 2) Ls (.int v :: st))) : Goes p.tables e below Φ T (mkF m pc Ls st) := by
  obtain ⟨locs, X, eT, N, hn⟩ := S
  exact Goes.go (X.ldcInt B.1 B.2.2.2.2.1 (mvT B.2.1 w) (g := mkF m pc Ls st) rfl (B.d hd)) k
theorem Goes.ldcL {index : Nat} {v : Int64} (S : Sd p l e R s m args below meth c T h n0 cells slots) (B : Base p s m meth c Z y0 bytes0 maxL0 ret0) (w : (Cond.constantLong y0.cls index v).before a0 Z = true) (hd : decode bytes0 pc = .ok (.ldc2_w index, 3)) (k : Goes p.tables e below Φ T (mkF m (pc + 3) Ls (.long v :: st))) : Goes p.tables e below Φ T (mkF m pc Ls st) := by
  obtain ⟨locs, X, eT, N, hn⟩ := S
  exact Goes.go (X.ldc2Long B.1 B.2.2.2.2.1 (mvT B.2.1 w) (g := mkF m pc Ls st) rfl (B.d hd)) k
/-! calls -/
section Calls
variable {y : MethodName} {bytes : ByteArray} {maxL : Nat} {ret : Option FieldType} {rm : Room} {index W : Nat} {argsL : List Value} {Q : Option Value → Heap → Prop}
theorem Con.back {as' : Array Value} {len : Nat} (C : Con l Z y bytes maxL ret rm as' h n0 Q) (hn : n0 ≤ h.size) (hZ : Z.Warmed39 s.vm) (wc : (Cond.code y bytes maxL ret).before a0 Z = true) (wz : (Cond.initialized y.cls).before a0 Z = true) (hf : rm.frames + 1 ≤ R.frames) (hl : W + (maxL + 11) + rm.locals ≤ R.locals) :
    Back l R p e below s args y len W (fun A a => a = as' ∧ A.U.heap = h ∧ A.cells + rm.cells ≤ R.cells ∧ A.slots + rm.slots ≤ R.slots)
      (fun A _ v B => ∃ L, (Fr n0 L ∧ Q v B.U.heap) ∧ B.locs = A.locs ++ L ∧ B.cells = A.cells + rm.cells ∧ B.slots = A.slots + rm.slots) :=
  backOf (Q := fun v h L => Fr n0 L ∧ Q v h) (C hn []) hZ wc wz hf hl
theorem Goes.callS (S : Sd p l e R s m args below meth c T h n0 cells slots) (B : Base p s m meth c Z y0 bytes0 maxL0 ret0) (C : Con l Z y bytes maxL ret rm argsL.toArray h n0 Q) (wl : (Cond.methodLink y0.cls index y).before a0 Z = true) (ws : (Cond.static y).before a0 Z = true) (wi : (Cond.initialized y.cls).before a0 Z = true) (wc : (Cond.code y bytes maxL ret).before a0 Z = true)
    (hy : y.cls ≠ "java/lang/invoke/MethodHandle" ∧ y.cls ≠ "java/lang/invoke/VarHandle") (hf : rm.frames + 1 ≤ R.frames) (hlo : W + (maxL + 11) + rm.locals ≤ R.locals) (hc : cells + rm.cells ≤ R.cells) (hs : slots + rm.slots ≤ R.slots) (hsz : Ls.size = maxL0)
    (hlen : ∀ sig, parseMethodDescriptor y.desc = some sig → argsL.length = sig.parameters.length) (hst : st = argsL.reverse ++ rest) (hW : 2 * 0 + (rest.map fun v => v.category).sum ≤ W) (hd : decode bytes0 pc = .ok (.invokestatic index, 3))
    (k : ∀ v T' h', Sd p l e R s m args below meth c T' h' n0 (cells + rm.cells) (slots + rm.slots) → Q v h' → Goes p.tables e below Φ T' (mkF m (pc + 3) Ls (v.toList ++ rest))) : Goes p.tables e below Φ T (mkF m pc Ls st) := by
  have hle := S.le
  obtain ⟨locs, X, eT, N, hn⟩ := S
  subst hst
  obtain ⟨v, _, ⟨T', L', k', n'⟩, -, X', ⟨Lc, ⟨hN, hQ⟩, l1, y1, z1⟩, stp⟩ := Jvm.LawKit.callS X B.1 (y := y) B.2.2.2.2.1 (mvT B.2.1 wl) (mvT B.2.1 ws) (mvT B.2.1 wi) (mvT B.2.1 wc) hy (Con.back (W := W) C hle B.2.1 wc wi hf hlo) (g := mkF m pc Ls (argsL.reverse ++ rest)) rfl (by rw [B.2.2.2.1]; exact hsz) (argsL := argsL) (rest := rest) hlen rfl hW (B.d hd) (fun _ _ => ⟨rfl, eT, hc, hs⟩)
  dsimp only [Pt.U, Pt.locs, Pt.cells, Pt.slots] at X' l1 y1 z1 stp hQ
  subst l1 y1 z1
  exact Goes.go stp (k v T' T'.heap ⟨_, X', rfl, N.app hN, hn⟩ hQ)
theorem Goes.callI {b : Addr} (S : Sd p l e R s m args below meth c T h n0 cells slots) (B : Base p s m meth c Z y0 bytes0 maxL0 ret0) (C : Con l Z y bytes maxL none rm (.ref b :: argsL).toArray h n0 Q) (wl : (Cond.methodLink y0.cls index y).before a0 Z = true) (wim : (Cond.instanceMethod y).before a0 Z = true) (wi : (Cond.initialized y.cls).before a0 Z = true) (wc : (Cond.code y bytes maxL none).before a0 Z = true)
    (hy : y.cls ≠ "java/lang/invoke/MethodHandle" ∧ y.cls ≠ "java/lang/invoke/VarHandle") (hni : y.name = "<init>") (hf : rm.frames + 1 ≤ R.frames) (hlo : W + (maxL + 11) + rm.locals ≤ R.locals) (hc : cells + rm.cells ≤ R.cells) (hs : slots + rm.slots ≤ R.slots) (hsz : Ls.size = maxL0)
    (hlen : ∀ sig, parseMethodDescriptor y.desc = some sig → argsL.length = sig.parameters.length) (hst : st = argsL.reverse ++ .ref b :: rest) (hW : 2 * 0 + (rest.map fun v => v.category).sum ≤ W) (hd : decode bytes0 pc = .ok (.invokespecial index, 3))
    (k : ∀ v T' h', Sd p l e R s m args below meth c T' h' n0 (cells + rm.cells) (slots + rm.slots) → Q v h' → Goes p.tables e below Φ T' (mkF m (pc + 3) Ls (v.toList ++ rest))) : Goes p.tables e below Φ T (mkF m pc Ls st) := by
  have hle := S.le
  obtain ⟨locs, X, eT, N, hn⟩ := S
  subst hst
  obtain ⟨v, _, ⟨T', L', k', n'⟩, -, X', ⟨Lc, ⟨hN, hQ⟩, l1, y1, z1⟩, stp⟩ := X.specialBack B.1 (y := y) hni B.2.2.2.2.1 (mvT B.2.1 wl) (mvT B.2.1 wim) (mvT B.2.1 wc) hy (Con.back (W := W) C hle B.2.1 wc wi hf hlo) (g := mkF m pc Ls (argsL.reverse ++ .ref b :: rest)) rfl (by rw [B.2.2.2.1]; exact hsz) (Steps.refl _) (a := b) (argsL := argsL) (rest := rest) hlen rfl hW (B.d hd) (fun _ _ => ⟨rfl, eT, hc, hs⟩)
  dsimp only [Pt.U, Pt.locs, Pt.cells, Pt.slots] at X' l1 y1 z1 stp hQ
  subst l1 y1 z1
  exact Goes.go (fun t q => stp.trans q) (k v T' T'.heap ⟨_, X', rfl, N.app hN, hn⟩ hQ)
theorem Goes.callV {b : Addr} {K : String} (S : Sd p l e R s m args below meth c T h n0 cells slots) (B : Base p s m meth c Z y0 bytes0 maxL0 ret0) (C : Con l Z y bytes maxL ret rm (.ref b :: argsL).toArray h n0 Q) (E : Exa Z h b K) (wl : (Cond.methodLink y0.cls index y).before a0 Z = true) (wd : (Cond.declares y).before a0 Z = true) (wsel : (Cond.selects K y y).before a0 Z = true) (wim : (Cond.instanceMethod y).before a0 Z = true) (wi : (Cond.initialized y.cls).before a0 Z = true) (wc : (Cond.code y bytes maxL ret).before a0 Z = true)
    (hy : y.cls ≠ "java/lang/invoke/MethodHandle" ∧ y.cls ≠ "java/lang/invoke/VarHandle") (hf : rm.frames + 1 ≤ R.frames) (hlo : W + (maxL + 11) + rm.locals ≤ R.locals) (hc : cells + rm.cells ≤ R.cells) (hs : slots + rm.slots ≤ R.slots) (hsz : Ls.size = maxL0)
    (hlen : ∀ sig, parseMethodDescriptor y.desc = some sig → argsL.length = sig.parameters.length) (hst : st = argsL.reverse ++ .ref b :: rest) (hW : 2 * 0 + (rest.map fun v => v.category).sum ≤ W) (hd : decode bytes0 pc = .ok (.invokevirtual index, 3))
    (k : ∀ v T' h', Sd p l e R s m args below meth c T' h' n0 (cells + rm.cells) (slots + rm.slots) → Q v h' → Goes p.tables e below Φ T' (mkF m (pc + 3) Ls (v.toList ++ rest))) : Goes p.tables e below Φ T (mkF m pc Ls st) := by
  have hle := S.le
  obtain ⟨locs, X, eT, N, hn⟩ := S
  subst hst
  obtain ⟨cq, kq, qa, qb, qc⟩ := isOf B.2.1 eT E
  obtain ⟨v, _, ⟨T', L', k', n'⟩, -, X', ⟨Lc, ⟨hN, hQ⟩, l1, y1, z1⟩, stp⟩ := X.virtualBack B.1 (y := y) (z := y) B.2.2.2.2.1 (mvT B.2.1 wl) (mvT B.2.1 wd) (notFace_of_selects (args := #[]) (mvT B.2.1 wsel)) (mvT B.2.1 wsel) (mvT B.2.1 wim) hy (Con.back (W := W) C hle B.2.1 wc wi hf hlo) qa qc (g := mkF m pc Ls (argsL.reverse ++ .ref b :: rest)) rfl (by rw [B.2.2.2.1]; exact hsz) (Steps.refl _) (argsL := argsL) (rest := rest) hlen rfl hW (B.d hd) (fun _ _ => ⟨rfl, eT, hc, hs⟩)
  dsimp only [Pt.U, Pt.locs, Pt.cells, Pt.slots] at X' l1 y1 z1 stp hQ
  subst l1 y1 z1
  exact Goes.go (fun t q => stp.trans q) (k v T' T'.heap ⟨_, X', rfl, N.app hN, hn⟩ hQ)
theorem Goes.callP {b : Addr} {K : String} (S : Sd p l e R s m args below meth c T h n0 cells slots) (B : Base p s m meth c Z y0 bytes0 maxL0 ret0) (C : Con l Z y bytes maxL ret rm (.ref b :: argsL).toArray h n0 Q) (E : Exa Z h b K) (wl : (Cond.methodLink y0.cls index y).before a0 Z = true) (wp : (Cond.privateMethod y).before a0 Z = true) {kk : Nat} (wk : (Cond.instantiable y.cls kk).before a0 Z = true) (wim : (Cond.instanceMethod y).before a0 Z = true) (wi : (Cond.initialized y.cls).before a0 Z = true) (wc : (Cond.code y bytes maxL ret).before a0 Z = true)
    (hy : y.cls ≠ "java/lang/invoke/MethodHandle" ∧ y.cls ≠ "java/lang/invoke/VarHandle") (hf : rm.frames + 1 ≤ R.frames) (hlo : W + (maxL + 11) + rm.locals ≤ R.locals) (hc : cells + rm.cells ≤ R.cells) (hs : slots + rm.slots ≤ R.slots) (hsz : Ls.size = maxL0)
    (hlen : ∀ sig, parseMethodDescriptor y.desc = some sig → argsL.length = sig.parameters.length) (hst : st = argsL.reverse ++ .ref b :: rest) (hW : 2 * 0 + (rest.map fun v => v.category).sum ≤ W) (hd : decode bytes0 pc = .ok (.invokevirtual index, 3))
    (k : ∀ v T' h', Sd p l e R s m args below meth c T' h' n0 (cells + rm.cells) (slots + rm.slots) → Q v h' → Goes p.tables e below Φ T' (mkF m (pc + 3) Ls (v.toList ++ rest))) : Goes p.tables e below Φ T (mkF m pc Ls st) := by
  have hle := S.le
  obtain ⟨locs, X, eT, N, hn⟩ := S
  subst hst
  obtain ⟨cq, q1, q2⟩ := E.cell
  have hpr : s.PrivateAt y := Cond.privateMethod_at (mvP B.2.1 wp (args := #[]))
  have wsel : (Cond.selects y.cls y y).before args s = true := by
    obtain ⟨ci, ki, i1, i2, i3, i4, -⟩ := Cond.instantiable_spec (mvT B.2.1 wk (args := args))
    exact selects_self_of_private i1 i2 (Bool.or_eq_false_iff.mp i4).1 hpr (mvT B.2.1 wim) hy
  obtain ⟨v, _, ⟨T', L', k', n'⟩, -, X', ⟨Lc, ⟨hN, hQ⟩, l1, y1, z1⟩, stp⟩ := X.privateBack B.1 (y := y) B.2.2.2.2.1 (mvT B.2.1 wl) (mvT B.2.1 wim) wsel hpr (mvT B.2.1 wc) hy (Con.back (W := W) C hle B.2.1 wc wi hf hlo) (g := mkF m pc Ls (argsL.reverse ++ .ref b :: rest)) rfl (by rw [B.2.2.2.1]; exact hsz) (Steps.refl _) (a := b) (by rw [eT]; exact q1) q2 (argsL := argsL) (rest := rest) hlen rfl hW (B.d hd) (fun _ _ => ⟨rfl, eT, hc, hs⟩)
  dsimp only [Pt.U, Pt.locs, Pt.cells, Pt.slots] at X' l1 y1 z1 stp hQ
  subst l1 y1 z1
  exact Goes.go (fun t q => stp.trans q) (k v T' T'.heap ⟨_, X', rfl, N.app hN, hn⟩ hQ)
end Calls
/-! arrays: what lies at each place, as a function -/
def Ary (Z : State) (h : Heap) (a : Addr) (ty : FieldType) (n : Nat) (f : Nat → Value) : Prop := ∃ c : Cell, Arr Z h a c ty ∧ c.slots.size = n ∧ n < 2 ^ 31 ∧ ∀ i, i < n → c.slots[i]? = some (f i)
def aup {α : Type} (f : Nat → α) (i : Nat) (v : α) : Nat → α := fun k => if k = i then v else f k
theorem aup_int (g : Nat → Int32) (k : Nat) (x : Int32) : aup (fun i => Value.int (g i)) k (.int x) = fun i => .int (aup g k x i) := by
  funext i
  simp only [aup]
  split <;> rfl
theorem aup_long (g : Nat → Int64) (k : Nat) (x : Int64) : aup (fun i => Value.long (g i)) k (.long x) = fun i => .long (aup g k x i) := by
  funext i
  simp only [aup]
  split <;> rfl
section Arrays
variable {a b : Addr} {ty : FieldType} {n : Nat} {f : Nat → Value} {h' : Heap} {j : Int32} {v : Value} {sl : Nat} {ws : List Addr}
theorem Ary.lt (A : Ary Z h a ty n f) : a < h.size := by obtain ⟨c, A, -⟩ := A; exact A.lt
theorem Ary.ext (A : Ary Z h a ty n f) (E : Ext h h') : Ary Z h' a ty n f := by obtain ⟨c, A, r⟩ := A; exact ⟨c, A.ext E, r⟩
theorem Ary.other (A : Ary Z h b ty n f) (W : Wr h h' a sl v) (q : b ≠ a) : Ary Z h' b ty n f := by obtain ⟨c, A, r⟩ := A; exact ⟨c, A.other W q, r⟩
theorem Ary.keep (A : Ary Z h a ty n f) (K : Keep h h' ws) (q : a ∉ ws) : Ary Z h' a ty n f := by obtain ⟨c, A, r⟩ := A; exact ⟨c, ⟨K.2.1 a c A.1 q, A.2⟩, r⟩
theorem Ary.cast {g : Nat → Value} (A : Ary Z h a ty n f) (q : ∀ i, i < n → f i = g i) : Ary Z h a ty n g := by obtain ⟨c, A, r1, r2, r3⟩ := A; exact ⟨c, A, r1, r2, fun i hi => by rw [r3 i hi, q i hi]⟩
theorem Ary.new {z : Int32} {k : ClassId} (A : Arr Z h a (newA k ty z) ty) (q : ¬ z < 0) : Ary Z h a ty z.toNatClampNeg (fun _ => defaultValue ty) :=
  ⟨_, A, sz_new _ _ _, (back32 q).2, fun i hi => by simp [newA, hi]⟩
theorem Ary.set {i : Nat} (A : Ary Z h a ty n f) (W : Wr h h' a i v) (hi : i < n) : Ary Z h' a ty n (aup f i v) := by
  obtain ⟨c, A, r1, r2, r3⟩ := A
  refine ⟨_, A.same W, by rw [sz_set]; exact r1, r2, fun k hk => ?_⟩
  by_cases e : k = i
  · subst e
    simp [aup, Cell.setSlot, r1, hi]
  · have e' : i ≠ k := fun q => e q.symm
    simp only [aup, if_neg e, Cell.setSlot]
    rw [Array.getElem?_setIfInBounds_ne e']
    exact r3 k hk
theorem Goes.newP {aty : ArrayType} {z : Int32} {cap : Nat} (S : Sd p l e R s m args below meth c T h n0 cells slots) (B : Base p s m meth c Z y0 bytes0 maxL0 ret0) (w : (Cond.arrayClass (newarray.typeOf aty)).before a0 Z = true) (hd : decode bytes0 pc = .ok (.newarray aty, 2)) (hz : ¬ z < 0) (hcap : z.toNatClampNeg ≤ cap) (hb : cap * 8 ≤ 536870912) (hc : cells + 1 ≤ R.cells) (hl : slots + cap ≤ R.slots)
    (k : ∀ T' h' b, Sd p l e R s m args below meth c T' h' n0 (cells + 1) (slots + cap) → Ext h h' → b = h.size → n0 ≤ b → Ary Z h' b (newarray.typeOf aty) z.toNatClampNeg (fun _ => defaultValue (newarray.typeOf aty)) → Goes p.tables e below Φ T' (mkF m (pc + 2) Ls (.ref b :: rest))) :
    Goes p.tables e below Φ T (mkF m pc Ls (.int z :: rest)) := by
  have hle := S.le
  obtain ⟨locs, X, eT, N, hn⟩ := S
  obtain ⟨T', h', k', X', e', E, A, stp⟩ := RoadKit.newP X B.1 B.2.1 w eT (g := mkF m pc Ls (.int z :: rest)) rfl (B.d hd) rfl hz hcap hb hc hl
  exact Goes.go stp (k T' h' h.size ⟨locs, X', e', N, hn⟩ E rfl hle (Ary.new A hz))
theorem Goes.iaload (S : Sd p l e R s m args below meth c T h n0 cells slots) (B : Base p s m meth c Z y0 bytes0 maxL0 ret0) (A : Ary Z h a .int n f) (q0 : ¬ j < 0) (q1 : j.toNatClampNeg < n) (hd : decode bytes0 pc = .ok (.iaload, 1)) (hv : f j.toNatClampNeg = v) (k : Goes p.tables e below Φ T (mkF m (pc + 1) Ls (v :: rest))) : Goes p.tables e below Φ T (mkF m pc Ls (.int j :: .ref a :: rest)) := by
  obtain ⟨locs, X, eT, N, hn⟩ := S
  obtain ⟨cl, A, r1, r2, r3⟩ := A
  exact Goes.go (X.iaload B.1 (j := j) (v := v) (by rw [eT]; exact A.1) (State.isArrayOf_alike B.2.1.alike A.2.1) A.2.2 (by rw [r1]; exact fun z => z.elim q0 (Nat.not_le.mpr q1)) (by rw [r3 _ q1, hv]) (g := mkF m pc Ls (.int j :: .ref a :: rest)) rfl rfl (B.d hd)) k
theorem Goes.laload (S : Sd p l e R s m args below meth c T h n0 cells slots) (B : Base p s m meth c Z y0 bytes0 maxL0 ret0) (A : Ary Z h a .long n f) (q0 : ¬ j < 0) (q1 : j.toNatClampNeg < n) (hd : decode bytes0 pc = .ok (.laload, 1)) (hv : f j.toNatClampNeg = v) (k : Goes p.tables e below Φ T (mkF m (pc + 1) Ls (v :: rest))) : Goes p.tables e below Φ T (mkF m pc Ls (.int j :: .ref a :: rest)) := by
  obtain ⟨locs, X, eT, N, hn⟩ := S
  obtain ⟨cl, A, r1, r2, r3⟩ := A
  exact Goes.go (X.laload B.1 (j := j) (v := v) (by rw [eT]; exact A.1) (State.isArrayOf_alike B.2.1.alike A.2.1) A.2.2 (by rw [r1]; exact fun z => z.elim q0 (Nat.not_le.mpr q1)) (by rw [r3 _ q1, hv]) (g := mkF m pc Ls (.int j :: .ref a :: rest)) rfl rfl (B.d hd)) k
theorem Goes.baload (S : Sd p l e R s m args below meth c T h n0 cells slots) (B : Base p s m meth c Z y0 bytes0 maxL0 ret0) (A : Ary Z h a .byte n f) (q0 : ¬ j < 0) (q1 : j.toNatClampNeg < n) (hd : decode bytes0 pc = .ok (.baload, 1)) (hv : f j.toNatClampNeg = v) (k : Goes p.tables e below Φ T (mkF m (pc + 1) Ls (v :: rest))) : Goes p.tables e below Φ T (mkF m pc Ls (.int j :: .ref a :: rest)) := by
  obtain ⟨locs, X, eT, N, hn⟩ := S
  obtain ⟨cl, A, r1, r2, r3⟩ := A
  exact Goes.go (X.baloadBytes B.1 (j := j) (v := v) (by rw [eT]; exact A.1) (State.isArrayOf_alike B.2.1.alike A.2.1) A.2.2 (by rw [r1]; exact fun z => z.elim q0 (Nat.not_le.mpr q1)) (by rw [r3 _ q1, hv]) (g := mkF m pc Ls (.int j :: .ref a :: rest)) rfl rfl (B.d hd)) k
theorem Goes.zaload (S : Sd p l e R s m args below meth c T h n0 cells slots) (B : Base p s m meth c Z y0 bytes0 maxL0 ret0) (A : Ary Z h a .boolean n f) (q0 : ¬ j < 0) (q1 : j.toNatClampNeg < n) (hd : decode bytes0 pc = .ok (.baload, 1)) (hv : f j.toNatClampNeg = v) (k : Goes p.tables e below Φ T (mkF m (pc + 1) Ls (v :: rest))) : Goes p.tables e below Φ T (mkF m pc Ls (.int j :: .ref a :: rest)) := by
  obtain ⟨locs, X, eT, N, hn⟩ := S
  obtain ⟨cl, A, r1, r2, r3⟩ := A
  exact Goes.go (X.baloadBooleans B.1 (j := j) (v := v) (by rw [eT]; exact A.1) (State.isArrayOf_alike B.2.1.alike A.2.1) A.2.2 (by rw [r1]; exact fun z => z.elim q0 (Nat.not_le.mpr q1)) (by rw [r3 _ q1, hv]) (g := mkF m pc Ls (.int j :: .ref a :: rest)) rfl rfl (B.d hd)) k
theorem Goes.alen (S : Sd p l e R s m args below meth c T h n0 cells slots) (B : Base p s m meth c Z y0 bytes0 maxL0 ret0) (A : Ary Z h a ty n f) {z : Int32} (hz : n.toInt32 = z) (hd : decode bytes0 pc = .ok (.arraylength, 1)) (k : Goes p.tables e below Φ T (mkF m (pc + 1) Ls (.int z :: rest))) : Goes p.tables e below Φ T (mkF m pc Ls (.ref a :: rest)) := by
  obtain ⟨locs, X, eT, N, hn⟩ := S
  obtain ⟨cl, A, r1, r2, r3⟩ := A
  subst r1 hz
  exact Goes.go (X.arraylength B.1 (by rw [eT]; exact A.1) (State.isArrayOf_alike B.2.1.alike A.2.1) (g := mkF m pc Ls (.ref a :: rest)) rfl rfl (B.d hd)) k
theorem Goes.iastore {x : Int32} (S : Sd p l e R s m args below meth c T h n0 cells slots) (B : Base p s m meth c Z y0 bytes0 maxL0 ret0) (A : Ary Z h a .int n f) (q0 : ¬ j < 0) (q1 : j.toNatClampNeg < n) (ga : n0 ≤ a) (hd : decode bytes0 pc = .ok (.iastore, 1))
    (k : ∀ T' h', Sd p l e R s m args below meth c T' h' n0 cells slots → Wr h h' a j.toNatClampNeg (.int x) → Ary Z h' a .int n (aup f j.toNatClampNeg (.int x)) → Goes p.tables e below Φ T' (mkF m (pc + 1) Ls rest)) : Goes p.tables e below Φ T (mkF m pc Ls (.int x :: .int j :: .ref a :: rest)) := by
  obtain ⟨locs, X, eT, N, hn⟩ := S
  have A' := A
  obtain ⟨cl, A, r1, r2, r3⟩ := A
  obtain ⟨T', h', X', e', W, stp⟩ := RoadKit.stI X B.1 B.2.1 eT A (j := j) (by rw [r1]; exact fun z => z.elim q0 (Nat.not_le.mpr q1)) (g := mkF m pc Ls (.int x :: .int j :: .ref a :: rest)) rfl rfl (B.d hd)
  exact Goes.go stp (k T' h' ⟨_, X', e', Fr.snoc X' N ga, hn⟩ W (A'.set W q1))
theorem Goes.lastore {x : Int64} (S : Sd p l e R s m args below meth c T h n0 cells slots) (B : Base p s m meth c Z y0 bytes0 maxL0 ret0) (A : Ary Z h a .long n f) (q0 : ¬ j < 0) (q1 : j.toNatClampNeg < n) (ga : n0 ≤ a) (hd : decode bytes0 pc = .ok (.lastore, 1))
    (k : ∀ T' h', Sd p l e R s m args below meth c T' h' n0 cells slots → Wr h h' a j.toNatClampNeg (.long x) → Ary Z h' a .long n (aup f j.toNatClampNeg (.long x)) → Goes p.tables e below Φ T' (mkF m (pc + 1) Ls rest)) : Goes p.tables e below Φ T (mkF m pc Ls (.long x :: .int j :: .ref a :: rest)) := by
  obtain ⟨locs, X, eT, N, hn⟩ := S
  have A' := A
  obtain ⟨cl, A, r1, r2, r3⟩ := A
  obtain ⟨T', h', X', e', W, stp⟩ := RoadKit.stJ X B.1 B.2.1 eT A (j := j) (by rw [r1]; exact fun z => z.elim q0 (Nat.not_le.mpr q1)) (g := mkF m pc Ls (.long x :: .int j :: .ref a :: rest)) rfl rfl (B.d hd)
  exact Goes.go stp (k T' h' ⟨_, X', e', Fr.snoc X' N ga, hn⟩ W (A'.set W q1))
theorem Goes.bastore {x : Int32} (S : Sd p l e R s m args below meth c T h n0 cells slots) (B : Base p s m meth c Z y0 bytes0 maxL0 ret0) (A : Ary Z h a .byte n f) (q0 : ¬ j < 0) (q1 : j.toNatClampNeg < n) (ga : n0 ≤ a) (hd : decode bytes0 pc = .ok (.bastore, 1))
    (k : ∀ T' h', Sd p l e R s m args below meth c T' h' n0 cells slots → Wr h h' a j.toNatClampNeg (.int (nar .byte x)) → Ary Z h' a .byte n (aup f j.toNatClampNeg (.int (nar .byte x))) → Goes p.tables e below Φ T' (mkF m (pc + 1) Ls rest)) : Goes p.tables e below Φ T (mkF m pc Ls (.int x :: .int j :: .ref a :: rest)) := by
  obtain ⟨locs, X, eT, N, hn⟩ := S
  have A' := A
  obtain ⟨cl, A, r1, r2, r3⟩ := A
  obtain ⟨T', h', X', e', W, stp⟩ := RoadKit.stB X B.1 B.2.1 eT A (j := j) (by rw [r1]; exact fun z => z.elim q0 (Nat.not_le.mpr q1)) (g := mkF m pc Ls (.int x :: .int j :: .ref a :: rest)) rfl rfl (B.d hd)
  exact Goes.go stp (k T' h' ⟨_, X', e', Fr.snoc X' N ga, hn⟩ W (A'.set W q1))
theorem Goes.zastore {x : Int32} (S : Sd p l e R s m args below meth c T h n0 cells slots) (B : Base p s m meth c Z y0 bytes0 maxL0 ret0) (A : Ary Z h a .boolean n f) (q0 : ¬ j < 0) (q1 : j.toNatClampNeg < n) (ga : n0 ≤ a) (hd : decode bytes0 pc = .ok (.bastore, 1))
    (k : ∀ T' h', Sd p l e R s m args below meth c T' h' n0 cells slots → Wr h h' a j.toNatClampNeg (.int (nar .boolean x)) → Ary Z h' a .boolean n (aup f j.toNatClampNeg (.int (nar .boolean x))) → Goes p.tables e below Φ T' (mkF m (pc + 1) Ls rest)) : Goes p.tables e below Φ T (mkF m pc Ls (.int x :: .int j :: .ref a :: rest)) := by
  obtain ⟨locs, X, eT, N, hn⟩ := S
  have A' := A
  obtain ⟨cl, A, r1, r2, r3⟩ := A
  obtain ⟨T', h', X', e', W, stp⟩ := RoadKit.stZ X B.1 B.2.1 eT A (j := j) (by rw [r1]; exact fun z => z.elim q0 (Nat.not_le.mpr q1)) (g := mkF m pc Ls (.int x :: .int j :: .ref a :: rest)) rfl rfl (B.d hd)
  exact Goes.go stp (k T' h' ⟨_, X', e', Fr.snoc X' N ga, hn⟩ W (A'.set W q1))
end Arrays
end Lay
end Jvm.OwnKit
namespace Jvm.Pilot.@@N@@
open Jvm Jvm.ClassFile Sem Op Lib Jvm.Free Jvm.Stand Jvm.LawKit Jvm.RoadKit Jvm.OwnKit Bundle Jvm.Pilot.@@N@@.Jvm.D
theorem w0 {Z : State} {a0 : Array Value} (hw : ∀ d ∈ tables_1, d.before a0 Z = true) : ((Jvm.Cond.arrayClass Jvm.ClassFile.FieldType.long) : Jvm.Cond).before a0 Z = true := hw _ (List.mem_of_getElem? (i := 0) rfl)
theorem w1 {Z : State} {a0 : Array Value} (hw : ∀ d ∈ tables_1, d.before a0 Z = true) : ((Jvm.Cond.methodLink "com/example/orphean/orphean/BlowfishFPinLaw" (9 : Nat) ({ cls := "com/example/orphean/orphean/BlowfishFPinLaw", name := "packed", desc := "(I)J" } : Jvm.MethodName)) : Jvm.Cond).before a0 Z = true := hw _ (List.mem_of_getElem? (i := 1) rfl)
theorem w2 {Z : State} {a0 : Array Value} (hw : ∀ d ∈ tables_1, d.before a0 Z = true) : ((Jvm.Cond.static ({ cls := "com/example/orphean/orphean/BlowfishFPinLaw", name := "packed", desc := "(I)J" } : Jvm.MethodName)) : Jvm.Cond).before a0 Z = true := hw _ (List.mem_of_getElem? (i := 2) rfl)
theorem w3 {Z : State} {a0 : Array Value} (hw : ∀ d ∈ tables_1, d.before a0 Z = true) : ((Jvm.Cond.initialized "com/example/orphean/orphean/BlowfishFPinLaw") : Jvm.Cond).before a0 Z = true := hw _ (List.mem_of_getElem? (i := 3) rfl)
theorem w4 {Z : State} {a0 : Array Value} (hw : ∀ d ∈ tables_1, d.before a0 Z = true) : ((Jvm.Cond.code ({ cls := "com/example/orphean/orphean/BlowfishFPinLaw", name := "packed", desc := "(I)J" } : Jvm.MethodName) method_2_code (1 : Nat) (Option.some Jvm.ClassFile.FieldType.long)) : Jvm.Cond).before a0 Z = true := hw _ (List.mem_of_getElem? (i := 4) rfl)
theorem w5 {Z : State} {a0 : Array Value} (hw : ∀ d ∈ tables_1, d.before a0 Z = true) : ((Jvm.Cond.constantLong "com/example/orphean/orphean/BlowfishFPinLaw" (7 : Nat) (4294967295 : Int64)) : Jvm.Cond).before a0 Z = true := hw _ (List.mem_of_getElem? (i := 5) rfl)
theorem w6 {Z : State} {a0 : Array Value} (hw : ∀ d ∈ tables_1, d.before a0 Z = true) : ((Jvm.Cond.methodLink "com/example/orphean/orphean/BlowfishFPinLaw" (15 : Nat) ({ cls := "com/example/orphean/orphean/Blowfish", name := "f", desc := "([JII)J" } : Jvm.MethodName)) : Jvm.Cond).before a0 Z = true := hw _ (List.mem_of_getElem? (i := 6) rfl)
theorem w7 {Z : State} {a0 : Array Value} (hw : ∀ d ∈ tables_1, d.before a0 Z = true) : ((Jvm.Cond.static ({ cls := "com/example/orphean/orphean/Blowfish", name := "f", desc := "([JII)J" } : Jvm.MethodName)) : Jvm.Cond).before a0 Z = true := hw _ (List.mem_of_getElem? (i := 7) rfl)
theorem w8 {Z : State} {a0 : Array Value} (hw : ∀ d ∈ tables_1, d.before a0 Z = true) : ((Jvm.Cond.initialized "com/example/orphean/orphean/Blowfish") : Jvm.Cond).before a0 Z = true := hw _ (List.mem_of_getElem? (i := 8) rfl)
theorem w9 {Z : State} {a0 : Array Value} (hw : ∀ d ∈ tables_1, d.before a0 Z = true) : ((Jvm.Cond.code ({ cls := "com/example/orphean/orphean/Blowfish", name := "f", desc := "([JII)J" } : Jvm.MethodName) prog_9_method_8_code (3 : Nat) (Option.some Jvm.ClassFile.FieldType.long)) : Jvm.Cond).before a0 Z = true := hw _ (List.mem_of_getElem? (i := 9) rfl)
theorem d_method_2_0 : decode method_2_code 0 = .ok (.iload_n 0, 1) := by decide +kernel
theorem d_method_2_1 : decode method_2_code 1 = .ok (.i2l, 1) := by decide +kernel
theorem d_method_2_2 : decode method_2_code 2 = .ok (.bipush 40, 2) := by decide +kernel
theorem d_method_2_4 : decode method_2_code 4 = .ok (.lshl, 1) := by decide +kernel
theorem d_method_2_5 : decode method_2_code 5 = .ok (.iload_n 0, 1) := by decide +kernel
theorem d_method_2_6 : decode method_2_code 6 = .ok (.i2l, 1) := by decide +kernel
theorem d_method_2_7 : decode method_2_code 7 = .ok (.ldc2_w 7, 3) := by decide +kernel
theorem d_method_2_10 : decode method_2_code 10 = .ok (.land, 1) := by decide +kernel
theorem d_method_2_11 : decode method_2_code 11 = .ok (.lor, 1) := by decide +kernel
theorem d_method_2_12 : decode method_2_code 12 = .ok (.lreturn, 1) := by decide +kernel
theorem d_prog_9_method_8_0 : decode prog_9_method_8_code 0 = .ok (.aload_n 0, 1) := by decide +kernel
theorem d_prog_9_method_8_1 : decode prog_9_method_8_code 1 = .ok (.bipush 18, 2) := by decide +kernel
theorem d_prog_9_method_8_3 : decode prog_9_method_8_code 3 = .ok (.iload_n 1, 1) := by decide +kernel
theorem d_prog_9_method_8_4 : decode prog_9_method_8_code 4 = .ok (.bipush 24, 2) := by decide +kernel
theorem d_prog_9_method_8_6 : decode prog_9_method_8_code 6 = .ok (.iushr, 1) := by decide +kernel
theorem d_prog_9_method_8_7 : decode prog_9_method_8_code 7 = .ok (.iadd, 1) := by decide +kernel
theorem d_prog_9_method_8_8 : decode prog_9_method_8_code 8 = .ok (.laload, 1) := by decide +kernel
theorem d_prog_9_method_8_9 : decode prog_9_method_8_code 9 = .ok (.aload_n 0, 1) := by decide +kernel
theorem d_prog_9_method_8_10 : decode prog_9_method_8_code 10 = .ok (.sipush 274, 3) := by decide +kernel
theorem d_prog_9_method_8_13 : decode prog_9_method_8_code 13 = .ok (.iload_n 2, 1) := by decide +kernel
theorem d_prog_9_method_8_14 : decode prog_9_method_8_code 14 = .ok (.iadd, 1) := by decide +kernel
theorem d_prog_9_method_8_15 : decode prog_9_method_8_code 15 = .ok (.laload, 1) := by decide +kernel
theorem d_prog_9_method_8_16 : decode prog_9_method_8_code 16 = .ok (.ladd, 1) := by decide +kernel
theorem d_prog_9_method_8_17 : decode prog_9_method_8_code 17 = .ok (.aload_n 0, 1) := by decide +kernel
theorem d_prog_9_method_8_18 : decode prog_9_method_8_code 18 = .ok (.sipush 530, 3) := by decide +kernel
theorem d_prog_9_method_8_21 : decode prog_9_method_8_code 21 = .ok (.iload_n 1, 1) := by decide +kernel
theorem d_prog_9_method_8_22 : decode prog_9_method_8_code 22 = .ok (.bipush 8, 2) := by decide +kernel
theorem d_prog_9_method_8_24 : decode prog_9_method_8_code 24 = .ok (.iushr, 1) := by decide +kernel
theorem d_prog_9_method_8_25 : decode prog_9_method_8_code 25 = .ok (.sipush 255, 3) := by decide +kernel
theorem d_prog_9_method_8_28 : decode prog_9_method_8_code 28 = .ok (.iand, 1) := by decide +kernel
theorem d_prog_9_method_8_29 : decode prog_9_method_8_code 29 = .ok (.iadd, 1) := by decide +kernel
theorem d_prog_9_method_8_30 : decode prog_9_method_8_code 30 = .ok (.laload, 1) := by decide +kernel
theorem d_prog_9_method_8_31 : decode prog_9_method_8_code 31 = .ok (.lxor, 1) := by decide +kernel
theorem d_prog_9_method_8_32 : decode prog_9_method_8_code 32 = .ok (.aload_n 0, 1) := by decide +kernel
theorem d_prog_9_method_8_33 : decode prog_9_method_8_code 33 = .ok (.sipush 786, 3) := by decide +kernel
theorem d_prog_9_method_8_36 : decode prog_9_method_8_code 36 = .ok (.iload_n 1, 1) := by decide +kernel
theorem d_prog_9_method_8_37 : decode prog_9_method_8_code 37 = .ok (.sipush 255, 3) := by decide +kernel
theorem d_prog_9_method_8_40 : decode prog_9_method_8_code 40 = .ok (.iand, 1) := by decide +kernel
theorem d_prog_9_method_8_41 : decode prog_9_method_8_code 41 = .ok (.iadd, 1) := by decide +kernel
theorem d_prog_9_method_8_42 : decode prog_9_method_8_code 42 = .ok (.laload, 1) := by decide +kernel
theorem d_prog_9_method_8_43 : decode prog_9_method_8_code 43 = .ok (.ladd, 1) := by decide +kernel
theorem d_prog_9_method_8_44 : decode prog_9_method_8_code 44 = .ok (.lreturn, 1) := by decide +kernel
theorem pd_0 : parseMethodDescriptor "(I)J" = some ⟨[.int], some .long⟩ := by decide +kernel
theorem pd_1 : parseMethodDescriptor "([JII)J" = some ⟨[(.array .long), .int, .int], some .long⟩ := by decide +kernel
theorem pn_0 : plainName "com/example/orphean/orphean/BlowfishFPinLaw" = true := by first | (simp [plainName, overriddenIn]; done) | decide +kernel
theorem pn_1 : plainName "com/example/orphean/orphean/Blowfish" = true := by first | (simp [plainName, overriddenIn]; done) | decide +kernel
theorem n_inj32 {x y : Int32} (h : x.toBitVec.toNat = y.toBitVec.toNat) : x = y := Int32.toBitVec_inj.mp (BitVec.eq_of_toNat_eq h)
theorem n_inj64 {x y : Int64} (h : x.toBitVec.toNat = y.toBitVec.toNat) : x = y := Int64.toBitVec_inj.mp (BitVec.eq_of_toNat_eq h)
theorem or_add (a b k : Nat) (h : b < 2 ^ k) : a * 2 ^ k ||| b = a * 2 ^ k + b := by
  rw [← Nat.shiftLeft_eq, Nat.shiftLeft_add_eq_or_of_lt h]
theorem n_or (x y : Int64) : (x ||| y).toBitVec.toNat = x.toBitVec.toNat ||| y.toBitVec.toNat := by rw [Int64.toBitVec_or, BitVec.toNat_or]
theorem n_or32 (x y : Int32) : (x ||| y).toBitVec.toNat = x.toBitVec.toNat ||| y.toBitVec.toNat := by rw [Int32.toBitVec_or, BitVec.toNat_or]
theorem n_maskL (x m : Int64) (k : Nat) (hk : k ≤ 64) (hm : m.toBitVec.toNat = 2 ^ k - 1) : (x &&& m).toBitVec.toNat = x.toBitVec.toNat % 2 ^ k := by
  rw [Int64.toBitVec_and, BitVec.toNat_and, hm, Nat.and_two_pow_sub_one_eq_mod]
theorem n_mask (x m : Int32) (k : Nat) (hk : k ≤ 32) (hm : m.toBitVec.toNat = 2 ^ k - 1) : (x &&& m).toBitVec.toNat = x.toBitVec.toNat % 2 ^ k := by
  rw [Int32.toBitVec_and, BitVec.toNat_and, hm, Nat.and_two_pow_sub_one_eq_mod]
theorem n_shl (x q : Int64) (k : Nat) (hk : (q.toBitVec.smod 64).toNat = k) : (x <<< q).toBitVec.toNat = x.toBitVec.toNat * 2 ^ k % 2 ^ 64 := by
  rw [Int64.toBitVec_shiftLeft, BitVec.shiftLeft_eq', BitVec.toNat_shiftLeft, Nat.shiftLeft_eq, hk]
theorem n_lushr (x : Int64) (q : UInt64) (k : Nat) (hk : q.toNat % 64 = k) : ((x.toUInt64 >>> q).toInt64).toBitVec.toNat = x.toBitVec.toNat / 2 ^ k := by
  show (x.toUInt64 >>> q).toNat = _
  rw [UInt64.toNat_shiftRight, hk, Nat.shiftRight_eq_div_pow]
  rfl
theorem n_iushr (x : Int32) (q : UInt32) (k : Nat) (hk : q.toNat % 32 = k) : ((x.toUInt32 >>> q).toInt32).toBitVec.toNat = x.toBitVec.toNat / 2 ^ k := by
  show (x.toUInt32 >>> q).toNat = _
  rw [UInt32.toNat_shiftRight, hk, Nat.shiftRight_eq_div_pow]
  rfl
theorem n_l2i (x : Int64) : x.toInt32.toBitVec.toNat = x.toBitVec.toNat % 2 ^ 32 := by
  show (x.toBitVec.signExtend 32).toNat = _
  rw [BitVec.signExtend_eq_setWidth_of_le _ (by omega), BitVec.toNat_setWidth]
theorem n_i2l (x : Int32) : x.toInt64.toBitVec.toNat = x.toBitVec.toNat + if 2 ^ 31 ≤ x.toBitVec.toNat then 2 ^ 64 - 2 ^ 32 else 0 := by
  show (x.toBitVec.signExtend 64).toNat = _
  rw [BitVec.toNat_signExtend, BitVec.toNat_setWidth, BitVec.msb_eq_decide]
  have hx : x.toBitVec.toNat < 2 ^ 32 := x.toBitVec.isLt
  rw [Nat.mod_eq_of_lt (by omega)]
  simp
theorem n_ishl (x q : Int32) (k : Nat) (hk : (q.toBitVec.smod 32).toNat = k) : (x <<< q).toBitVec.toNat = x.toBitVec.toNat * 2 ^ k % 2 ^ 32 := by
  rw [Int32.toBitVec_shiftLeft, BitVec.shiftLeft_eq', BitVec.toNat_shiftLeft, Nat.shiftLeft_eq, hk]
theorem n_toInt (x : Int32) : x.toInt = if x.toBitVec.toNat < 2147483648 then (x.toBitVec.toNat : Int) else (x.toBitVec.toNat : Int) - 4294967296 := by
  have h : x.toInt = if 2 * x.toBitVec.toNat < 2 ^ 32 then (x.toBitVec.toNat : Int) else (x.toBitVec.toNat : Int) - (2 ^ 32 : Nat) := BitVec.toInt_eq_toNat_cond x.toBitVec
  rw [h]
  split <;> split <;> omega
theorem n_lt (x : Int32) : x.toBitVec.toNat < 4294967296 := x.toBitVec.isLt
theorem n_add (x y : Int32) : (x + y).toBitVec.toNat = (x.toBitVec.toNat + y.toBitVec.toNat) % 4294967296 := by rw [Int32.toBitVec_add, BitVec.toNat_add]
theorem n_addL (x y : Int64) : (x + y).toBitVec.toNat = (x.toBitVec.toNat + y.toBitVec.toNat) % 18446744073709551616 := by rw [Int64.toBitVec_add, BitVec.toNat_add]
theorem n_xor (x y : Int32) : (x ^^^ y).toBitVec.toNat = x.toBitVec.toNat ^^^ y.toBitVec.toNat := by rw [Int32.toBitVec_xor, BitVec.toNat_xor]
theorem n_xorL (x y : Int64) : (x ^^^ y).toBitVec.toNat = x.toBitVec.toNat ^^^ y.toBitVec.toNat := by rw [Int64.toBitVec_xor, BitVec.toNat_xor]
theorem n_tm (x : Int32) : (x.toBitVec.toNat : Int) % 256 = x.toInt % 256 := by
  have h := n_toInt x
  split at h <;> omega
theorem n_tm2 (x : Int32) : (x.toBitVec.toNat : Int) % 65536 = x.toInt % 65536 := by
  have h := n_toInt x
  split at h <;> omega
def own_pk (p0 : Int32) : Int64 := ((p0.toInt64 <<< ((40 : Int32) &&& 0x3f).toInt64) ||| (p0.toInt64 &&& (4294967295 : Int64)))

theorem own_idx (b : Int32) (k m : Int32) (n : Int) (h0 : 0 ≤ b.toInt) (h1 : b.toInt < 256) (hk : k.toInt = n) (hn : 0 ≤ n ∧ n ≤ 786) : (k + b).toInt = n + b.toInt := by
  have h := c_iadd k b
  have r := rng32 (k + b)
  omega
theorem own_nat (x : Int32) (n : Int) (h : x.toInt = n) (h0 : 0 ≤ n) (h1 : n < 1042) : (¬ x < 0 ∧ x.toNatClampNeg < 1042) ∧ x.toNatClampNeg = n.toNat := by
  have e : x.toNatClampNeg = x.toInt.toNat := rfl
  have e0 : (0 : Int32).toInt = 0 := by decide
  rw [e, h, Int32.lt_iff_toInt_lt, e0, h]
  omega
theorem own_b (w : Int32) (k : Int32) (n : Nat) (hk : k.toBitVec.toNat % 32 = n) : ((w >>> (k &&& 31)) &&& (255 : Int32)).toInt = w.toInt / (2 ^ n : Nat) % 256 := by
  rw [c_mask _ 255 8 (by omega) (by decide), c_ishr w k n hk]; rfl
theorem own_j0 (w : Int32) : ((18 : Int32) + ((w >>> ((24 : Int32) &&& 31)) &&& (255 : Int32))).toInt = 18 + w.toInt / 16777216 % 256 := by
  have h := own_b w 24 24 (by decide)
  rw [own_idx _ 18 18 18 (by omega) (by omega) (by decide) (by omega), h]; rfl
theorem own_j1 (w : Int32) : ((274 : Int32) + ((w >>> ((16 : Int32) &&& 31)) &&& (255 : Int32))).toInt = 274 + w.toInt / 65536 % 256 := by
  have h := own_b w 16 16 (by decide)
  rw [own_idx _ 274 18 274 (by omega) (by omega) (by decide) (by omega), h]; rfl
theorem own_j2 (w : Int32) : ((530 : Int32) + ((w >>> ((8 : Int32) &&& 31)) &&& (255 : Int32))).toInt = 530 + w.toInt / 256 % 256 := by
  have h := own_b w 8 8 (by decide)
  rw [own_idx _ 530 18 530 (by omega) (by omega) (by decide) (by omega), h]; rfl
theorem own_j3 (w : Int32) : ((786 : Int32) + (w &&& (255 : Int32))).toInt = 786 + w.toInt % 256 := by
  have h := c_mask w 255 8 (by omega) (by decide)
  have h' : (w &&& (255 : Int32)).toInt = w.toInt % 256 := h
  rw [own_idx _ 786 18 786 (by omega) (by omega) (by decide) (by omega), h']
theorem own_r0 (w : Int32) : ((18 : Int32) + ((w.toUInt32 >>> ((24 : Int32) &&& 31).toUInt32).toInt32)).toInt = 18 + w.toInt / 16777216 % 256 := by
  have h := c_iushr w 24 24 (by decide) (by omega)
  have r := rng32 w
  have h' : ((w.toUInt32 >>> ((24 : Int32) &&& 31).toUInt32).toInt32).toInt = w.toInt % 4294967296 / 16777216 := h
  rw [own_idx _ 18 18 18 (by omega) (by omega) (by decide) (by omega), h']; omega
theorem own_r2 (w : Int32) : ((530 : Int32) + (((w.toUInt32 >>> ((8 : Int32) &&& 31).toUInt32).toInt32) &&& (255 : Int32))).toInt = 530 + w.toInt / 256 % 256 := by
  have h := c_iushr w 8 8 (by decide) (by omega)
  have h' : ((w.toUInt32 >>> ((8 : Int32) &&& 31).toUInt32).toInt32).toInt = w.toInt % 4294967296 / 256 := h
  have h2 := c_mask ((w.toUInt32 >>> ((8 : Int32) &&& 31).toUInt32).toInt32) 255 8 (by omega) (by decide)
  have h3 : (((w.toUInt32 >>> ((8 : Int32) &&& 31).toUInt32).toInt32) &&& (255 : Int32)).toInt = ((w.toUInt32 >>> ((8 : Int32) &&& 31).toUInt32).toInt32).toInt % 256 := h2
  rw [own_idx _ 530 18 530 (by omega) (by omega) (by decide) (by omega), h3, h']; omega
theorem own_in0 (w : Int32) : ¬ ((18 : Int32) + ((w >>> ((24 : Int32) &&& 31)) &&& (255 : Int32))) < 0 ∧ ((18 : Int32) + ((w >>> ((24 : Int32) &&& 31)) &&& (255 : Int32))).toNatClampNeg < 1042 := (own_nat _ _ (own_j0 w) (by omega) (by omega)).1
theorem own_in1 (w : Int32) : ¬ ((274 : Int32) + ((w >>> ((16 : Int32) &&& 31)) &&& (255 : Int32))) < 0 ∧ ((274 : Int32) + ((w >>> ((16 : Int32) &&& 31)) &&& (255 : Int32))).toNatClampNeg < 1042 := (own_nat _ _ (own_j1 w) (by omega) (by omega)).1
theorem own_in2 (w : Int32) : ¬ ((530 : Int32) + ((w >>> ((8 : Int32) &&& 31)) &&& (255 : Int32))) < 0 ∧ ((530 : Int32) + ((w >>> ((8 : Int32) &&& 31)) &&& (255 : Int32))).toNatClampNeg < 1042 := (own_nat _ _ (own_j2 w) (by omega) (by omega)).1
theorem own_in3 (w : Int32) : ¬ ((786 : Int32) + (w &&& (255 : Int32))) < 0 ∧ ((786 : Int32) + (w &&& (255 : Int32))).toNatClampNeg < 1042 := (own_nat _ _ (own_j3 w) (by omega) (by omega)).1
theorem own_rd0 (w : Int32) : ¬ ((18 : Int32) + ((w.toUInt32 >>> ((24 : Int32) &&& 31).toUInt32).toInt32)) < 0 ∧ ((18 : Int32) + ((w.toUInt32 >>> ((24 : Int32) &&& 31).toUInt32).toInt32)).toNatClampNeg < 1042 := (own_nat _ _ (own_r0 w) (by omega) (by omega)).1
theorem own_rd1 (w : Int32) : ¬ ((274 : Int32) + ((w >>> ((16 : Int32) &&& 31)) &&& (255 : Int32))) < 0 ∧ ((274 : Int32) + ((w >>> ((16 : Int32) &&& 31)) &&& (255 : Int32))).toNatClampNeg < 1042 := (own_nat _ _ (own_j1 w) (by omega) (by omega)).1
theorem own_rd2 (w : Int32) : ¬ ((530 : Int32) + (((w.toUInt32 >>> ((8 : Int32) &&& 31).toUInt32).toInt32) &&& (255 : Int32))) < 0 ∧ ((530 : Int32) + (((w.toUInt32 >>> ((8 : Int32) &&& 31).toUInt32).toInt32) &&& (255 : Int32))).toNatClampNeg < 1042 := (own_nat _ _ (own_r2 w) (by omega) (by omega)).1
theorem own_rd3 (w : Int32) : ¬ ((786 : Int32) + (w &&& (255 : Int32))) < 0 ∧ ((786 : Int32) + (w &&& (255 : Int32))).toNatClampNeg < 1042 := (own_nat _ _ (own_j3 w) (by omega) (by omega)).1
theorem own_f0 (w : Int32) (z : Nat → Value) (v0 v1 v2 v3 : Value) : (aup (aup (aup (aup z ((18 : Int32) + ((w >>> ((24 : Int32) &&& 31)) &&& (255 : Int32))).toNatClampNeg v0) ((274 : Int32) + ((w >>> ((16 : Int32) &&& 31)) &&& (255 : Int32))).toNatClampNeg v1) ((530 : Int32) + ((w >>> ((8 : Int32) &&& 31)) &&& (255 : Int32))).toNatClampNeg v2) ((786 : Int32) + (w &&& (255 : Int32))).toNatClampNeg v3) ((18 : Int32) + ((w.toUInt32 >>> ((24 : Int32) &&& 31).toUInt32).toInt32)).toNatClampNeg = v0 := by
  have e0 := (own_nat _ _ (own_j0 w) (by omega) (by omega)).2
  have e1 := (own_nat _ _ (own_j1 w) (by omega) (by omega)).2
  have e2 := (own_nat _ _ (own_j2 w) (by omega) (by omega)).2
  have e3 := (own_nat _ _ (own_j3 w) (by omega) (by omega)).2
  have r := (own_nat _ _ (own_r0 w) (by omega) (by omega)).2
  simp only [r, e0, e1, e2, e3, aup]
  rw [if_neg (by omega), if_neg (by omega), if_neg (by omega), if_pos trivial]
theorem own_f1 (w : Int32) (z : Nat → Value) (v0 v1 v2 v3 : Value) : (aup (aup (aup (aup z ((18 : Int32) + ((w >>> ((24 : Int32) &&& 31)) &&& (255 : Int32))).toNatClampNeg v0) ((274 : Int32) + ((w >>> ((16 : Int32) &&& 31)) &&& (255 : Int32))).toNatClampNeg v1) ((530 : Int32) + ((w >>> ((8 : Int32) &&& 31)) &&& (255 : Int32))).toNatClampNeg v2) ((786 : Int32) + (w &&& (255 : Int32))).toNatClampNeg v3) ((274 : Int32) + ((w >>> ((16 : Int32) &&& 31)) &&& (255 : Int32))).toNatClampNeg = v1 := by
  have e0 := (own_nat _ _ (own_j0 w) (by omega) (by omega)).2
  have e1 := (own_nat _ _ (own_j1 w) (by omega) (by omega)).2
  have e2 := (own_nat _ _ (own_j2 w) (by omega) (by omega)).2
  have e3 := (own_nat _ _ (own_j3 w) (by omega) (by omega)).2
  have r := (own_nat _ _ (own_j1 w) (by omega) (by omega)).2
  simp only [r, e0, e1, e2, e3, aup]
  rw [if_neg (by omega), if_neg (by omega), if_pos trivial]
theorem own_f2 (w : Int32) (z : Nat → Value) (v0 v1 v2 v3 : Value) : (aup (aup (aup (aup z ((18 : Int32) + ((w >>> ((24 : Int32) &&& 31)) &&& (255 : Int32))).toNatClampNeg v0) ((274 : Int32) + ((w >>> ((16 : Int32) &&& 31)) &&& (255 : Int32))).toNatClampNeg v1) ((530 : Int32) + ((w >>> ((8 : Int32) &&& 31)) &&& (255 : Int32))).toNatClampNeg v2) ((786 : Int32) + (w &&& (255 : Int32))).toNatClampNeg v3) ((530 : Int32) + (((w.toUInt32 >>> ((8 : Int32) &&& 31).toUInt32).toInt32) &&& (255 : Int32))).toNatClampNeg = v2 := by
  have e0 := (own_nat _ _ (own_j0 w) (by omega) (by omega)).2
  have e1 := (own_nat _ _ (own_j1 w) (by omega) (by omega)).2
  have e2 := (own_nat _ _ (own_j2 w) (by omega) (by omega)).2
  have e3 := (own_nat _ _ (own_j3 w) (by omega) (by omega)).2
  have r := (own_nat _ _ (own_r2 w) (by omega) (by omega)).2
  simp only [r, e0, e1, e2, e3, aup]
  rw [if_neg (by omega), if_pos trivial]
theorem own_f3 (w : Int32) (z : Nat → Value) (v0 v1 v2 v3 : Value) : (aup (aup (aup (aup z ((18 : Int32) + ((w >>> ((24 : Int32) &&& 31)) &&& (255 : Int32))).toNatClampNeg v0) ((274 : Int32) + ((w >>> ((16 : Int32) &&& 31)) &&& (255 : Int32))).toNatClampNeg v1) ((530 : Int32) + ((w >>> ((8 : Int32) &&& 31)) &&& (255 : Int32))).toNatClampNeg v2) ((786 : Int32) + (w &&& (255 : Int32))).toNatClampNeg v3) ((786 : Int32) + (w &&& (255 : Int32))).toNatClampNeg = v3 := by
  have e0 := (own_nat _ _ (own_j0 w) (by omega) (by omega)).2
  have e1 := (own_nat _ _ (own_j1 w) (by omega) (by omega)).2
  have e2 := (own_nat _ _ (own_j2 w) (by omega) (by omega)).2
  have e3 := (own_nat _ _ (own_j3 w) (by omega) (by omega)).2
  have r := (own_nat _ _ (own_j3 w) (by omega) (by omega)).2
  simp only [r, e0, e1, e2, e3, aup]
  rw [if_pos trivial]

theorem own_um (x : Int32) : (x.toInt64 &&& (4294967295 : Int64)).toBitVec.toNat = x.toBitVec.toNat := by
  have hx := n_lt x
  rw [n_maskL _ _ 32 (by omega) (by decide), n_i2l]
  split <;> omega
theorem own_sh (x : Int32) : (x.toInt64 <<< ((40 : Int32) &&& 0x3f).toInt64).toBitVec.toNat = x.toBitVec.toNat % 16777216 * 2 ^ 40 := by
  have hx := n_lt x
  rw [n_shl _ _ 40 (by decide), n_i2l]
  split <;> omega
theorem own_pn (x : Int32) : (own_pk x).toBitVec.toNat = x.toBitVec.toNat % 16777216 * 2 ^ 40 + x.toBitVec.toNat := by
  have hx := n_lt x
  unfold own_pk
  rw [n_or, own_sh, own_um]
  exact or_add _ _ 40 (by omega)
theorem own_xc (k a b c d : Nat) (hb : b < 2 ^ k) (hd : d < 2 ^ k) : (a * 2 ^ k + b) ^^^ (c * 2 ^ k + d) = (a ^^^ c) * 2 ^ k + (b ^^^ d) := by
  have hp : 0 < 2 ^ k := Nat.two_pow_pos k
  have h1 : ((a * 2 ^ k + b) ^^^ (c * 2 ^ k + d)) / 2 ^ k = a ^^^ c := by
    rw [Nat.xor_div_two_pow, Nat.add_comm, Nat.add_mul_div_right _ _ hp, Nat.div_eq_of_lt hb, Nat.add_comm (c * 2 ^ k), Nat.add_mul_div_right _ _ hp, Nat.div_eq_of_lt hd]
    simp
  have h2 : ((a * 2 ^ k + b) ^^^ (c * 2 ^ k + d)) % 2 ^ k = b ^^^ d := by
    rw [Nat.xor_mod_two_pow, Nat.add_comm, Nat.add_mul_mod_self_right, Nat.mod_eq_of_lt hb, Nat.add_comm (c * 2 ^ k), Nat.add_mul_mod_self_right, Nat.mod_eq_of_lt hd]
  have h3 := Nat.div_add_mod ((a * 2 ^ k + b) ^^^ (c * 2 ^ k + d)) (2 ^ k)
  rw [h1, h2, Nat.mul_comm] at h3
  exact h3.symm
theorem own_add40' (A B c : Nat) (hA : A < 4294967296) (hB : B < 4294967296) (hc : c ≤ 4294967296) : ((A % 16777216 * 2 ^ 40 + c + A) + (B % 16777216 * 2 ^ 40 + B)) % 18446744073709551616 = (A + B) % 16777216 * 2 ^ 40 + c + (A + B) := by
  have h := Nat.add_mod A B 16777216
  have ha : A % 16777216 < 16777216 := Nat.mod_lt _ (by omega)
  have hb : B % 16777216 < 16777216 := Nat.mod_lt _ (by omega)
  have hr : (A + B) % 16777216 < 16777216 := Nat.mod_lt _ (by omega)
  generalize A % 16777216 = a at *
  generalize B % 16777216 = b at *
  generalize (A + B) % 16777216 = r at *
  obtain ⟨q, hq⟩ : ∃ q, a + b = r + 16777216 * q := ⟨(a + b) / 16777216, by omega⟩
  have e : (a * 2 ^ 40 + c + A) + (b * 2 ^ 40 + B) = (r * 2 ^ 40 + c + (A + B)) + 18446744073709551616 * q := by omega
  rw [e, Nat.add_mul_mod_self_left, Nat.mod_eq_of_lt (by omega)]
theorem own_add40 (A B : Nat) (hA : A < 4294967296) (hB : B < 4294967296) : ((A % 16777216 * 2 ^ 40 + A) + (B % 16777216 * 2 ^ 40 + B)) % 18446744073709551616 = (A + B) % 16777216 * 2 ^ 40 + (A + B) := by
  have h := own_add40' A B 0 hA hB (by omega)
  rw [Nat.add_zero, Nat.add_zero] at h
  exact h
theorem own_lhs (A B C D : Nat) (hA : A < 4294967296) (hB : B < 4294967296) (hC : C < 4294967296) (hD : D < 4294967296) (X : Nat) (hX : (A + B) % 4294967296 ^^^ C = X) : (((((A % 16777216 * 2 ^ 40 + A) + (B % 16777216 * 2 ^ 40 + B)) % 18446744073709551616) ^^^ (C % 16777216 * 2 ^ 40 + C)) + (D % 16777216 * 2 ^ 40 + D)) % 18446744073709551616 = (X + D) % 16777216 * 2 ^ 40 + ((A + B) / 4294967296) * 2 ^ 32 + (X + D) := by
  have hXl : X < 2 ^ 32 := by rw [← hX]; exact Nat.xor_lt_two_pow (by omega) (by omega)
  have e0 : ((A + B) / 4294967296) * 2 ^ 32 + (A + B) % 4294967296 = A + B := by omega
  have e1 : ((A % 16777216 * 2 ^ 40 + A) + (B % 16777216 * 2 ^ 40 + B)) % 18446744073709551616 = (A + B) % 16777216 * 2 ^ 40 + (((A + B) / 4294967296) * 2 ^ 32 + (A + B) % 4294967296) := by
    rw [e0]
    exact own_add40 A B hA hB
  have e2 : (((A + B) / 4294967296) * 2 ^ 32 + (A + B) % 4294967296) ^^^ C = ((A + B) / 4294967296) * 2 ^ 32 + X := by
    have := own_xc 32 ((A + B) / 4294967296) ((A + B) % 4294967296) 0 C (by omega) (by omega)
    rw [Nat.zero_mul, Nat.zero_add, Nat.xor_zero, hX] at this
    exact this
  have e3 : (A + B) % 16777216 ^^^ C % 16777216 = X % 16777216 := by
    rw [← hX]
    have := Nat.xor_mod_two_pow (a := (A + B) % 4294967296) (b := C) (n := 24)
    rw [show (2 : Nat) ^ 24 = 16777216 from rfl] at this
    rw [this]
    congr 1
    omega
  rw [e1, own_xc 40 _ _ _ _ (by omega) (by omega), e2, e3]
  have e4 : (A + B) / 4294967296 ≤ 1 := by omega
  generalize (A + B) / 4294967296 = q at *
  have e5 := own_add40' X D (q * 2 ^ 32) hXl hD (by omega)
  rw [← Nat.add_assoc (X % 16777216 * 2 ^ 40) (q * 2 ^ 32) X]
  exact e5
theorem own_rhs (t q : Nat) : (t % 4294967296 % 16777216 * 256 + (q + t / 4294967296)) * 2 ^ 32 + t % 4294967296 = t % 16777216 * 2 ^ 40 + q * 2 ^ 32 + t := by
  have h := Nat.mod_mod_of_dvd t (show 16777216 ∣ 4294967296 from ⟨256, rfl⟩)
  have h2 := Nat.div_add_mod t 4294967296
  rw [h]
  generalize t % 16777216 = a at *
  generalize t % 4294967296 = b at *
  generalize t / 4294967296 = c at *
  omega
theorem own_main (a b c d : Int32) : ((((own_pk a) + (own_pk b)) ^^^ (own_pk c)) + (own_pk d)) = ((((((a + b) ^^^ c) + d).toInt64 <<< ((40 : Int32) &&& 0x3f).toInt64) ||| ((((((a.toInt64 &&& (4294967295 : Int64)) + (b.toInt64 &&& (4294967295 : Int64))).toUInt64 >>> ((32 : Int32) &&& 0x3f).toInt64.toUInt64).toInt64) + (((((((a.toInt64 &&& (4294967295 : Int64)) + (b.toInt64 &&& (4294967295 : Int64))) &&& (4294967295 : Int64)) ^^^ (c.toInt64 &&& (4294967295 : Int64))) + (d.toInt64 &&& (4294967295 : Int64))).toUInt64 >>> ((32 : Int32) &&& 0x3f).toInt64.toUInt64).toInt64)) <<< ((32 : Int32) &&& 0x3f).toInt64)) ||| ((((a + b) ^^^ c) + d).toInt64 &&& (4294967295 : Int64))) := by
  have hA := n_lt a
  have hB := n_lt b
  have hC := n_lt c
  have hD := n_lt d
  apply n_inj64
  rw [n_addL, n_xorL, n_addL, own_pn, own_pn, own_pn, own_pn]
  obtain ⟨X, hX⟩ : ∃ X, (a.toBitVec.toNat + b.toBitVec.toNat) % 4294967296 ^^^ c.toBitVec.toNat = X := ⟨_, rfl⟩
  have hXl : X < 2 ^ 32 := by rw [← hX]; exact Nat.xor_lt_two_pow (by omega) (by omega)
  rw [own_lhs _ _ _ _ hA hB hC hD X hX]
  have fv : (((a + b) ^^^ c) + d).toBitVec.toNat = (X + d.toBitVec.toNat) % 4294967296 := by
    rw [n_add, n_xor, n_add, hX]
  have s1 : ((a.toInt64 &&& (4294967295 : Int64)) + (b.toInt64 &&& (4294967295 : Int64))).toBitVec.toNat = a.toBitVec.toNat + b.toBitVec.toNat := by
    rw [n_addL, own_um, own_um]; omega
  have s2 : (((((a.toInt64 &&& (4294967295 : Int64)) + (b.toInt64 &&& (4294967295 : Int64))) &&& (4294967295 : Int64)) ^^^ (c.toInt64 &&& (4294967295 : Int64))) + (d.toInt64 &&& (4294967295 : Int64))).toBitVec.toNat = X + d.toBitVec.toNat := by
    rw [n_addL, n_xorL, n_maskL _ _ 32 (by omega) (by decide), s1, own_um, own_um]
    rw [show (2 : Nat) ^ 32 = 4294967296 from rfl, hX]; omega
  rw [n_or, n_or, own_sh, own_um, n_shl _ _ 32 (by decide), n_addL, n_lushr _ _ 32 (by decide), n_lushr _ _ 32 (by decide), s1, s2, fv]
  have e1 : ((a.toBitVec.toNat + b.toBitVec.toNat) / 2 ^ 32 + (X + d.toBitVec.toNat) / 2 ^ 32) % 18446744073709551616 * 2 ^ 32 % 2 ^ 64 = ((a.toBitVec.toNat + b.toBitVec.toNat) / 4294967296 + (X + d.toBitVec.toNat) / 4294967296) * 2 ^ 32 := by omega
  rw [e1, or_add _ _ 40 (by omega)]
  have e2 : (X + d.toBitVec.toNat) % 4294967296 % 16777216 * 2 ^ 40 + ((a.toBitVec.toNat + b.toBitVec.toNat) / 4294967296 + (X + d.toBitVec.toNat) / 4294967296) * 2 ^ 32 = ((X + d.toBitVec.toNat) % 4294967296 % 16777216 * 256 + ((a.toBitVec.toNat + b.toBitVec.toNat) / 4294967296 + (X + d.toBitVec.toNat) / 4294967296)) * 2 ^ 32 := by omega
  rw [e2, or_add _ _ 32 (by omega)]
  exact (own_rhs _ _).symm

theorem ef_rm_packed (m : MethodId) (p0 : Int32) : entryFrame m #[(.int p0)] 1 = mkF m 0 #[.val (.int p0)] [] := by first | (simp [entryFrame, mkF, argsToLocals, Value.category]; done) | rfl
def Q_rm_packed (Z : State) (p0 : Int32) (h0 : Heap) (n0 : Nat) (v : Option Value) (h : Heap) : Prop := v = some (.long (own_pk p0)) ∧ h = h0
set_option maxRecDepth 65536 in
set_option maxHeartbeats 40000000 in
theorem rm_packed (l : Launch) (Z : State) (aw : Array Value) (hw : ∀ d ∈ tables_1, d.before aw Z = true) (p0 : Int32) (h0 : Heap) (n0 : Nat) :
    Con l Z (⟨"com/example/orphean/orphean/BlowfishFPinLaw", "packed", "(I)J"⟩ : MethodName) method_2_code 1 (some .long) ({ frames := 0, cells := 0, slots := 0, locals := 0 } : Room) #[(.int p0)] h0 n0 (Q_rm_packed Z p0 h0 n0) := by
  refine Con.body (plainFor_of_name pn_0) ?_
  intro pr_ en_ st_ me_ below meth co_ T B S
  refine Goes.cast (ef_rm_packed me_ p0) ?_
  refine Goes.go (fun _ => XS.iloadN S.here B.x rfl (B.d d_method_2_0) rfl) ?_
  show Goes _ _ _ _ T (mkF me_ 1 #[.val (.int p0)] [(.int p0)])
  refine Goes.go (fun _ => XS.i2l S.here B.x rfl (B.d d_method_2_1) rfl) ?_
  show Goes _ _ _ _ T (mkF me_ 2 #[.val (.int p0)] [(.long p0.toInt64)])
  refine Goes.go (fun _ => XS.bipush S.here B.x rfl (B.d d_method_2_2)) ?_
  show Goes _ _ _ _ T (mkF me_ 4 #[.val (.int p0)] [(.int (40 : Int32)), (.long p0.toInt64)])
  refine Goes.go (fun _ => XS.lshl S.here B.x rfl (B.d d_method_2_4) rfl) ?_
  show Goes _ _ _ _ T (mkF me_ 5 #[.val (.int p0)] [(.long (p0.toInt64 <<< ((40 : Int32) &&& 0x3f).toInt64))])
  refine Goes.go (fun _ => XS.iloadN S.here B.x rfl (B.d d_method_2_5) rfl) ?_
  show Goes _ _ _ _ T (mkF me_ 6 #[.val (.int p0)] [(.int p0), (.long (p0.toInt64 <<< ((40 : Int32) &&& 0x3f).toInt64))])
  refine Goes.go (fun _ => XS.i2l S.here B.x rfl (B.d d_method_2_6) rfl) ?_
  show Goes _ _ _ _ T (mkF me_ 7 #[.val (.int p0)] [(.long p0.toInt64), (.long (p0.toInt64 <<< ((40 : Int32) &&& 0x3f).toInt64))])
  refine Goes.ldcL S B (w5 hw) d_method_2_7 ?_
  show Goes _ _ _ _ T (mkF me_ 10 #[.val (.int p0)] [(.long (4294967295 : Int64)), (.long p0.toInt64), (.long (p0.toInt64 <<< ((40 : Int32) &&& 0x3f).toInt64))])
  refine Goes.go (fun _ => XS.land S.here B.x rfl (B.d d_method_2_10) rfl) ?_
  show Goes _ _ _ _ T (mkF me_ 11 #[.val (.int p0)] [(.long (p0.toInt64 &&& (4294967295 : Int64))), (.long (p0.toInt64 <<< ((40 : Int32) &&& 0x3f).toInt64))])
  refine Goes.go (fun _ => XS.lor S.here B.x rfl (B.d d_method_2_11) rfl) ?_
  show Goes _ _ _ _ T (mkF me_ 12 #[.val (.int p0)] [(.long ((p0.toInt64 <<< ((40 : Int32) &&& 0x3f).toInt64) ||| (p0.toInt64 &&& (4294967295 : Int64))))])
  refine Goes.retL S B d_method_2_12 (by decide) (by decide) ?_
  exact ⟨rfl, rfl⟩
theorem ef_rm_f (m : MethodId) (a0 : Addr) (p1 : Int32) (p2 : Int32) : entryFrame m #[(.ref a0), (.int p1), (.int p2)] 3 = mkF m 0 #[.val (.ref a0), .val (.int p1), .val (.int p2)] [] := by first | (simp [entryFrame, mkF, argsToLocals, Value.category]; done) | rfl
def Q_rm_f (Z : State) (a0 : Addr) (p1 : Int32) (p2 : Int32) (f : Nat → Value) (x0 : Int64) (x1 : Int64) (x2 : Int64) (x3 : Int64) (h0 : Heap) (n0 : Nat) (v : Option Value) (h : Heap) : Prop := v = some (.long (((x0 + x1) ^^^ x2) + x3)) ∧ h = h0
set_option maxRecDepth 65536 in
set_option maxHeartbeats 40000000 in
theorem rm_f (l : Launch) (Z : State) (aw : Array Value) (hw : ∀ d ∈ tables_1, d.before aw Z = true) (a0 : Addr) (p1 : Int32) (p2 : Int32) (f : Nat → Value) (x0 : Int64) (x1 : Int64) (x2 : Int64) (x3 : Int64) (h0 : Heap) (n0 : Nat) (A_a0 : Ary Z h0 a0 .long 1042 f) (hn0 : ¬ ((18 : Int32) + ((p1.toUInt32 >>> ((24 : Int32) &&& 31).toUInt32).toInt32)) < 0) (hl0 : ((18 : Int32) + ((p1.toUInt32 >>> ((24 : Int32) &&& 31).toUInt32).toInt32)).toNatClampNeg < 1042) (hf0 : f ((18 : Int32) + ((p1.toUInt32 >>> ((24 : Int32) &&& 31).toUInt32).toInt32)).toNatClampNeg = .long x0) (hn1 : ¬ ((274 : Int32) + p2) < 0) (hl1 : ((274 : Int32) + p2).toNatClampNeg < 1042) (hf1 : f ((274 : Int32) + p2).toNatClampNeg = .long x1) (hn2 : ¬ ((530 : Int32) + (((p1.toUInt32 >>> ((8 : Int32) &&& 31).toUInt32).toInt32) &&& (255 : Int32))) < 0) (hl2 : ((530 : Int32) + (((p1.toUInt32 >>> ((8 : Int32) &&& 31).toUInt32).toInt32) &&& (255 : Int32))).toNatClampNeg < 1042) (hf2 : f ((530 : Int32) + (((p1.toUInt32 >>> ((8 : Int32) &&& 31).toUInt32).toInt32) &&& (255 : Int32))).toNatClampNeg = .long x2) (hn3 : ¬ ((786 : Int32) + (p1 &&& (255 : Int32))) < 0) (hl3 : ((786 : Int32) + (p1 &&& (255 : Int32))).toNatClampNeg < 1042) (hf3 : f ((786 : Int32) + (p1 &&& (255 : Int32))).toNatClampNeg = .long x3) :
    Con l Z (⟨"com/example/orphean/orphean/Blowfish", "f", "([JII)J"⟩ : MethodName) prog_9_method_8_code 3 (some .long) ({ frames := 0, cells := 0, slots := 0, locals := 0 } : Room) #[(.ref a0), (.int p1), (.int p2)] h0 n0 (Q_rm_f Z a0 p1 p2 f x0 x1 x2 x3 h0 n0) := by
  refine Con.body (plainFor_of_name pn_1) ?_
  intro pr_ en_ st_ me_ below meth co_ T B S
  refine Goes.cast (ef_rm_f me_ a0 p1 p2) ?_
  refine Goes.go (fun _ => XS.aloadN S.here B.x rfl (B.d d_prog_9_method_8_0) rfl rfl) ?_
  show Goes _ _ _ _ T (mkF me_ 1 #[.val (.ref a0), .val (.int p1), .val (.int p2)] [(.ref a0)])
  refine Goes.go (fun _ => XS.bipush S.here B.x rfl (B.d d_prog_9_method_8_1)) ?_
  show Goes _ _ _ _ T (mkF me_ 3 #[.val (.ref a0), .val (.int p1), .val (.int p2)] [(.int (18 : Int32)), (.ref a0)])
  refine Goes.go (fun _ => XS.iloadN S.here B.x rfl (B.d d_prog_9_method_8_3) rfl) ?_
  show Goes _ _ _ _ T (mkF me_ 4 #[.val (.ref a0), .val (.int p1), .val (.int p2)] [(.int p1), (.int (18 : Int32)), (.ref a0)])
  refine Goes.go (fun _ => XS.bipush S.here B.x rfl (B.d d_prog_9_method_8_4)) ?_
  show Goes _ _ _ _ T (mkF me_ 6 #[.val (.ref a0), .val (.int p1), .val (.int p2)] [(.int (24 : Int32)), (.int p1), (.int (18 : Int32)), (.ref a0)])
  refine Goes.go (fun _ => XS.iushr S.here B.x rfl (B.d d_prog_9_method_8_6) rfl) ?_
  show Goes _ _ _ _ T (mkF me_ 7 #[.val (.ref a0), .val (.int p1), .val (.int p2)] [(.int ((p1.toUInt32 >>> ((24 : Int32) &&& 31).toUInt32).toInt32)), (.int (18 : Int32)), (.ref a0)])
  refine Goes.go (fun _ => XS.iadd S.here B.x rfl (B.d d_prog_9_method_8_7) rfl) ?_
  show Goes _ _ _ _ T (mkF me_ 8 #[.val (.ref a0), .val (.int p1), .val (.int p2)] [(.int ((18 : Int32) + ((p1.toUInt32 >>> ((24 : Int32) &&& 31).toUInt32).toInt32))), (.ref a0)])
  refine Goes.laload S B A_a0 hn0 hl0 d_prog_9_method_8_8 (v := (.long x0)) hf0 ?_
  show Goes _ _ _ _ T (mkF me_ 9 #[.val (.ref a0), .val (.int p1), .val (.int p2)] [(.long x0)])
  refine Goes.go (fun _ => XS.aloadN S.here B.x rfl (B.d d_prog_9_method_8_9) rfl rfl) ?_
  show Goes _ _ _ _ T (mkF me_ 10 #[.val (.ref a0), .val (.int p1), .val (.int p2)] [(.ref a0), (.long x0)])
  refine Goes.go (fun _ => XS.sipush S.here B.x rfl (B.d d_prog_9_method_8_10)) ?_
  show Goes _ _ _ _ T (mkF me_ 13 #[.val (.ref a0), .val (.int p1), .val (.int p2)] [(.int (274 : Int32)), (.ref a0), (.long x0)])
  refine Goes.go (fun _ => XS.iloadN S.here B.x rfl (B.d d_prog_9_method_8_13) rfl) ?_
  show Goes _ _ _ _ T (mkF me_ 14 #[.val (.ref a0), .val (.int p1), .val (.int p2)] [(.int p2), (.int (274 : Int32)), (.ref a0), (.long x0)])
  refine Goes.go (fun _ => XS.iadd S.here B.x rfl (B.d d_prog_9_method_8_14) rfl) ?_
  show Goes _ _ _ _ T (mkF me_ 15 #[.val (.ref a0), .val (.int p1), .val (.int p2)] [(.int ((274 : Int32) + p2)), (.ref a0), (.long x0)])
  refine Goes.laload S B A_a0 hn1 hl1 d_prog_9_method_8_15 (v := (.long x1)) hf1 ?_
  show Goes _ _ _ _ T (mkF me_ 16 #[.val (.ref a0), .val (.int p1), .val (.int p2)] [(.long x1), (.long x0)])
  refine Goes.go (fun _ => XS.ladd S.here B.x rfl (B.d d_prog_9_method_8_16) rfl) ?_
  show Goes _ _ _ _ T (mkF me_ 17 #[.val (.ref a0), .val (.int p1), .val (.int p2)] [(.long (x0 + x1))])
  refine Goes.go (fun _ => XS.aloadN S.here B.x rfl (B.d d_prog_9_method_8_17) rfl rfl) ?_
  show Goes _ _ _ _ T (mkF me_ 18 #[.val (.ref a0), .val (.int p1), .val (.int p2)] [(.ref a0), (.long (x0 + x1))])
  refine Goes.go (fun _ => XS.sipush S.here B.x rfl (B.d d_prog_9_method_8_18)) ?_
  show Goes _ _ _ _ T (mkF me_ 21 #[.val (.ref a0), .val (.int p1), .val (.int p2)] [(.int (530 : Int32)), (.ref a0), (.long (x0 + x1))])
  refine Goes.go (fun _ => XS.iloadN S.here B.x rfl (B.d d_prog_9_method_8_21) rfl) ?_
  show Goes _ _ _ _ T (mkF me_ 22 #[.val (.ref a0), .val (.int p1), .val (.int p2)] [(.int p1), (.int (530 : Int32)), (.ref a0), (.long (x0 + x1))])
  refine Goes.go (fun _ => XS.bipush S.here B.x rfl (B.d d_prog_9_method_8_22)) ?_
  show Goes _ _ _ _ T (mkF me_ 24 #[.val (.ref a0), .val (.int p1), .val (.int p2)] [(.int (8 : Int32)), (.int p1), (.int (530 : Int32)), (.ref a0), (.long (x0 + x1))])
  refine Goes.go (fun _ => XS.iushr S.here B.x rfl (B.d d_prog_9_method_8_24) rfl) ?_
  show Goes _ _ _ _ T (mkF me_ 25 #[.val (.ref a0), .val (.int p1), .val (.int p2)] [(.int ((p1.toUInt32 >>> ((8 : Int32) &&& 31).toUInt32).toInt32)), (.int (530 : Int32)), (.ref a0), (.long (x0 + x1))])
  refine Goes.go (fun _ => XS.sipush S.here B.x rfl (B.d d_prog_9_method_8_25)) ?_
  show Goes _ _ _ _ T (mkF me_ 28 #[.val (.ref a0), .val (.int p1), .val (.int p2)] [(.int (255 : Int32)), (.int ((p1.toUInt32 >>> ((8 : Int32) &&& 31).toUInt32).toInt32)), (.int (530 : Int32)), (.ref a0), (.long (x0 + x1))])
  refine Goes.go (fun _ => XS.iand S.here B.x rfl (B.d d_prog_9_method_8_28) rfl) ?_
  show Goes _ _ _ _ T (mkF me_ 29 #[.val (.ref a0), .val (.int p1), .val (.int p2)] [(.int (((p1.toUInt32 >>> ((8 : Int32) &&& 31).toUInt32).toInt32) &&& (255 : Int32))), (.int (530 : Int32)), (.ref a0), (.long (x0 + x1))])
  refine Goes.go (fun _ => XS.iadd S.here B.x rfl (B.d d_prog_9_method_8_29) rfl) ?_
  show Goes _ _ _ _ T (mkF me_ 30 #[.val (.ref a0), .val (.int p1), .val (.int p2)] [(.int ((530 : Int32) + (((p1.toUInt32 >>> ((8 : Int32) &&& 31).toUInt32).toInt32) &&& (255 : Int32)))), (.ref a0), (.long (x0 + x1))])
  refine Goes.laload S B A_a0 hn2 hl2 d_prog_9_method_8_30 (v := (.long x2)) hf2 ?_
  show Goes _ _ _ _ T (mkF me_ 31 #[.val (.ref a0), .val (.int p1), .val (.int p2)] [(.long x2), (.long (x0 + x1))])
  refine Goes.go (fun _ => XS.lxor S.here B.x rfl (B.d d_prog_9_method_8_31) rfl) ?_
  show Goes _ _ _ _ T (mkF me_ 32 #[.val (.ref a0), .val (.int p1), .val (.int p2)] [(.long ((x0 + x1) ^^^ x2))])
  refine Goes.go (fun _ => XS.aloadN S.here B.x rfl (B.d d_prog_9_method_8_32) rfl rfl) ?_
  show Goes _ _ _ _ T (mkF me_ 33 #[.val (.ref a0), .val (.int p1), .val (.int p2)] [(.ref a0), (.long ((x0 + x1) ^^^ x2))])
  refine Goes.go (fun _ => XS.sipush S.here B.x rfl (B.d d_prog_9_method_8_33)) ?_
  show Goes _ _ _ _ T (mkF me_ 36 #[.val (.ref a0), .val (.int p1), .val (.int p2)] [(.int (786 : Int32)), (.ref a0), (.long ((x0 + x1) ^^^ x2))])
  refine Goes.go (fun _ => XS.iloadN S.here B.x rfl (B.d d_prog_9_method_8_36) rfl) ?_
  show Goes _ _ _ _ T (mkF me_ 37 #[.val (.ref a0), .val (.int p1), .val (.int p2)] [(.int p1), (.int (786 : Int32)), (.ref a0), (.long ((x0 + x1) ^^^ x2))])
  refine Goes.go (fun _ => XS.sipush S.here B.x rfl (B.d d_prog_9_method_8_37)) ?_
  show Goes _ _ _ _ T (mkF me_ 40 #[.val (.ref a0), .val (.int p1), .val (.int p2)] [(.int (255 : Int32)), (.int p1), (.int (786 : Int32)), (.ref a0), (.long ((x0 + x1) ^^^ x2))])
  refine Goes.go (fun _ => XS.iand S.here B.x rfl (B.d d_prog_9_method_8_40) rfl) ?_
  show Goes _ _ _ _ T (mkF me_ 41 #[.val (.ref a0), .val (.int p1), .val (.int p2)] [(.int (p1 &&& (255 : Int32))), (.int (786 : Int32)), (.ref a0), (.long ((x0 + x1) ^^^ x2))])
  refine Goes.go (fun _ => XS.iadd S.here B.x rfl (B.d d_prog_9_method_8_41) rfl) ?_
  show Goes _ _ _ _ T (mkF me_ 42 #[.val (.ref a0), .val (.int p1), .val (.int p2)] [(.int ((786 : Int32) + (p1 &&& (255 : Int32)))), (.ref a0), (.long ((x0 + x1) ^^^ x2))])
  refine Goes.laload S B A_a0 hn3 hl3 d_prog_9_method_8_42 (v := (.long x3)) hf3 ?_
  show Goes _ _ _ _ T (mkF me_ 43 #[.val (.ref a0), .val (.int p1), .val (.int p2)] [(.long x3), (.long ((x0 + x1) ^^^ x2))])
  refine Goes.go (fun _ => XS.ladd S.here B.x rfl (B.d d_prog_9_method_8_43) rfl) ?_
  show Goes _ _ _ _ T (mkF me_ 44 #[.val (.ref a0), .val (.int p1), .val (.int p2)] [(.long (((x0 + x1) ^^^ x2) + x3))])
  refine Goes.retL S B d_prog_9_method_8_44 (by decide) (by decide) ?_
  exact ⟨(by first | rfl | (rw [bi_pos (by assumption)]; rfl) | (rw [bi_neg (by assumption)]; rfl) | (rw [nar_bi]; exact congrArg (fun z => some (Value.int z)) (bi_congr (by simp_all))) | (simp_all [bi, nar]; done)), rfl⟩
theorem ef_rm0 (m : MethodId) (w : Int32) (a : Int32) (b : Int32) (c : Int32) (d : Int32) : entryFrame m #[(.int w), (.int a), (.int b), (.int c), (.int d)] maxLocals = mkF m 0 #[.val (.int w), .val (.int a), .val (.int b), .val (.int c), .val (.int d), .unset, .unset, .unset, .unset, .unset, .unset, .unset, .unset, .unset, .unset, .unset, .unset, .unset, .unset, .unset, .unset, .unset, .unset] [] := by first | (simp [entryFrame, mkF, argsToLocals, Value.category, maxLocals]; done) | rfl
def Q_rm0 (Z : State) (w : Int32) (a : Int32) (b : Int32) (c : Int32) (d : Int32) (h0 : Heap) (n0 : Nat) (v : Option Value) (h : Heap) : Prop := v = some (.int 1)
set_option maxRecDepth 65536 in
set_option maxHeartbeats 40000000 in
theorem rm0 (l : Launch) (Z : State) (aw : Array Value) (hw : ∀ d ∈ tables_1, d.before aw Z = true) (w : Int32) (a : Int32) (b : Int32) (c : Int32) (d : Int32) (h0 : Heap) (n0 : Nat) :
    Con l Z x code maxLocals ret room_1 #[(.int w), (.int a), (.int b), (.int c), (.int d)] h0 n0 (Q_rm0 Z w a b c d h0 n0) := by
  refine Con.body (plainFor_of_name pn_0) ?_
  intro pr_ en_ st_ me_ below meth co_ T B S
  refine Goes.cast (ef_rm0 me_ w a b c d) ?_
  refine Goes.go (fun _ => XS.sipush S.here B.x rfl (B.d at_0)) ?_
  show Goes _ _ _ _ T (mkF me_ 3 #[.val (.int w), .val (.int a), .val (.int b), .val (.int c), .val (.int d), .unset, .unset, .unset, .unset, .unset, .unset, .unset, .unset, .unset, .unset, .unset, .unset, .unset, .unset, .unset, .unset, .unset, .unset] [(.int (1042 : Int32))])
  refine Goes.newP (aty := .long) (cap := 1042) S B (w0 hw) at_3 (by decide) (by decide) (by decide) (by decide) (by decide) ?_
  intro T h b1 S X zb g_b1 A_b1
  replace A_b1 : Ary Z h b1 .long 1042 (fun _ => (.long 0)) := A_b1
  show Goes _ _ _ _ T (mkF me_ 5 #[.val (.int w), .val (.int a), .val (.int b), .val (.int c), .val (.int d), .unset, .unset, .unset, .unset, .unset, .unset, .unset, .unset, .unset, .unset, .unset, .unset, .unset, .unset, .unset, .unset, .unset, .unset] [(.ref b1)])
  refine Goes.go (fun _ => XS.astore S.here B.x rfl (B.d at_5) rfl rfl (l' := #[.val (.int w), .val (.int a), .val (.int b), .val (.int c), .val (.int d), .val (.ref b1), .unset, .unset, .unset, .unset, .unset, .unset, .unset, .unset, .unset, .unset, .unset, .unset, .unset, .unset, .unset, .unset, .unset]) rfl) ?_
  show Goes _ _ _ _ T (mkF me_ 7 #[.val (.int w), .val (.int a), .val (.int b), .val (.int c), .val (.int d), .val (.ref b1), .unset, .unset, .unset, .unset, .unset, .unset, .unset, .unset, .unset, .unset, .unset, .unset, .unset, .unset, .unset, .unset, .unset] [])
  refine Goes.go (fun _ => XS.iloadN S.here B.x rfl (B.d at_7) rfl) ?_
  show Goes _ _ _ _ T (mkF me_ 8 #[.val (.int w), .val (.int a), .val (.int b), .val (.int c), .val (.int d), .val (.ref b1), .unset, .unset, .unset, .unset, .unset, .unset, .unset, .unset, .unset, .unset, .unset, .unset, .unset, .unset, .unset, .unset, .unset] [(.int w)])
  refine Goes.go (fun _ => XS.bipush S.here B.x rfl (B.d at_8)) ?_
  show Goes _ _ _ _ T (mkF me_ 10 #[.val (.int w), .val (.int a), .val (.int b), .val (.int c), .val (.int d), .val (.ref b1), .unset, .unset, .unset, .unset, .unset, .unset, .unset, .unset, .unset, .unset, .unset, .unset, .unset, .unset, .unset, .unset, .unset] [(.int (24 : Int32)), (.int w)])
  refine Goes.go (fun _ => XS.ishr S.here B.x rfl (B.d at_10) rfl) ?_
  show Goes _ _ _ _ T (mkF me_ 11 #[.val (.int w), .val (.int a), .val (.int b), .val (.int c), .val (.int d), .val (.ref b1), .unset, .unset, .unset, .unset, .unset, .unset, .unset, .unset, .unset, .unset, .unset, .unset, .unset, .unset, .unset, .unset, .unset] [(.int (w >>> ((24 : Int32) &&& 31)))])
  refine Goes.go (fun _ => XS.sipush S.here B.x rfl (B.d at_11)) ?_
  show Goes _ _ _ _ T (mkF me_ 14 #[.val (.int w), .val (.int a), .val (.int b), .val (.int c), .val (.int d), .val (.ref b1), .unset, .unset, .unset, .unset, .unset, .unset, .unset, .unset, .unset, .unset, .unset, .unset, .unset, .unset, .unset, .unset, .unset] [(.int (255 : Int32)), (.int (w >>> ((24 : Int32) &&& 31)))])
  refine Goes.go (fun _ => XS.iand S.here B.x rfl (B.d at_14) rfl) ?_
  show Goes _ _ _ _ T (mkF me_ 15 #[.val (.int w), .val (.int a), .val (.int b), .val (.int c), .val (.int d), .val (.ref b1), .unset, .unset, .unset, .unset, .unset, .unset, .unset, .unset, .unset, .unset, .unset, .unset, .unset, .unset, .unset, .unset, .unset] [(.int ((w >>> ((24 : Int32) &&& 31)) &&& (255 : Int32)))])
  refine Goes.go (fun _ => XS.istore S.here B.x rfl (B.d at_15) rfl (l' := #[.val (.int w), .val (.int a), .val (.int b), .val (.int c), .val (.int d), .val (.ref b1), .val (.int ((w >>> ((24 : Int32) &&& 31)) &&& (255 : Int32))), .unset, .unset, .unset, .unset, .unset, .unset, .unset, .unset, .unset, .unset, .unset, .unset, .unset, .unset, .unset, .unset]) rfl) ?_
  show Goes _ _ _ _ T (mkF me_ 17 #[.val (.int w), .val (.int a), .val (.int b), .val (.int c), .val (.int d), .val (.ref b1), .val (.int ((w >>> ((24 : Int32) &&& 31)) &&& (255 : Int32))), .unset, .unset, .unset, .unset, .unset, .unset, .unset, .unset, .unset, .unset, .unset, .unset, .unset, .unset, .unset, .unset] [])
  refine Goes.go (fun _ => XS.iloadN S.here B.x rfl (B.d at_17) rfl) ?_
  show Goes _ _ _ _ T (mkF me_ 18 #[.val (.int w), .val (.int a), .val (.int b), .val (.int c), .val (.int d), .val (.ref b1), .val (.int ((w >>> ((24 : Int32) &&& 31)) &&& (255 : Int32))), .unset, .unset, .unset, .unset, .unset, .unset, .unset, .unset, .unset, .unset, .unset, .unset, .unset, .unset, .unset, .unset] [(.int w)])
  refine Goes.go (fun _ => XS.bipush S.here B.x rfl (B.d at_18)) ?_
  show Goes _ _ _ _ T (mkF me_ 20 #[.val (.int w), .val (.int a), .val (.int b), .val (.int c), .val (.int d), .val (.ref b1), .val (.int ((w >>> ((24 : Int32) &&& 31)) &&& (255 : Int32))), .unset, .unset, .unset, .unset, .unset, .unset, .unset, .unset, .unset, .unset, .unset, .unset, .unset, .unset, .unset, .unset] [(.int (16 : Int32)), (.int w)])
  refine Goes.go (fun _ => XS.ishr S.here B.x rfl (B.d at_20) rfl) ?_
  show Goes _ _ _ _ T (mkF me_ 21 #[.val (.int w), .val (.int a), .val (.int b), .val (.int c), .val (.int d), .val (.ref b1), .val (.int ((w >>> ((24 : Int32) &&& 31)) &&& (255 : Int32))), .unset, .unset, .unset, .unset, .unset, .unset, .unset, .unset, .unset, .unset, .unset, .unset, .unset, .unset, .unset, .unset] [(.int (w >>> ((16 : Int32) &&& 31)))])
  refine Goes.go (fun _ => XS.sipush S.here B.x rfl (B.d at_21)) ?_
  show Goes _ _ _ _ T (mkF me_ 24 #[.val (.int w), .val (.int a), .val (.int b), .val (.int c), .val (.int d), .val (.ref b1), .val (.int ((w >>> ((24 : Int32) &&& 31)) &&& (255 : Int32))), .unset, .unset, .unset, .unset, .unset, .unset, .unset, .unset, .unset, .unset, .unset, .unset, .unset, .unset, .unset, .unset] [(.int (255 : Int32)), (.int (w >>> ((16 : Int32) &&& 31)))])
  refine Goes.go (fun _ => XS.iand S.here B.x rfl (B.d at_24) rfl) ?_
  show Goes _ _ _ _ T (mkF me_ 25 #[.val (.int w), .val (.int a), .val (.int b), .val (.int c), .val (.int d), .val (.ref b1), .val (.int ((w >>> ((24 : Int32) &&& 31)) &&& (255 : Int32))), .unset, .unset, .unset, .unset, .unset, .unset, .unset, .unset, .unset, .unset, .unset, .unset, .unset, .unset, .unset, .unset] [(.int ((w >>> ((16 : Int32) &&& 31)) &&& (255 : Int32)))])
  refine Goes.go (fun _ => XS.istore S.here B.x rfl (B.d at_25) rfl (l' := #[.val (.int w), .val (.int a), .val (.int b), .val (.int c), .val (.int d), .val (.ref b1), .val (.int ((w >>> ((24 : Int32) &&& 31)) &&& (255 : Int32))), .val (.int ((w >>> ((16 : Int32) &&& 31)) &&& (255 : Int32))), .unset, .unset, .unset, .unset, .unset, .unset, .unset, .unset, .unset, .unset, .unset, .unset, .unset, .unset, .unset]) rfl) ?_
  show Goes _ _ _ _ T (mkF me_ 27 #[.val (.int w), .val (.int a), .val (.int b), .val (.int c), .val (.int d), .val (.ref b1), .val (.int ((w >>> ((24 : Int32) &&& 31)) &&& (255 : Int32))), .val (.int ((w >>> ((16 : Int32) &&& 31)) &&& (255 : Int32))), .unset, .unset, .unset, .unset, .unset, .unset, .unset, .unset, .unset, .unset, .unset, .unset, .unset, .unset, .unset] [])
  refine Goes.go (fun _ => XS.iloadN S.here B.x rfl (B.d at_27) rfl) ?_
  show Goes _ _ _ _ T (mkF me_ 28 #[.val (.int w), .val (.int a), .val (.int b), .val (.int c), .val (.int d), .val (.ref b1), .val (.int ((w >>> ((24 : Int32) &&& 31)) &&& (255 : Int32))), .val (.int ((w >>> ((16 : Int32) &&& 31)) &&& (255 : Int32))), .unset, .unset, .unset, .unset, .unset, .unset, .unset, .unset, .unset, .unset, .unset, .unset, .unset, .unset, .unset] [(.int w)])
  refine Goes.go (fun _ => XS.bipush S.here B.x rfl (B.d at_28)) ?_
  show Goes _ _ _ _ T (mkF me_ 30 #[.val (.int w), .val (.int a), .val (.int b), .val (.int c), .val (.int d), .val (.ref b1), .val (.int ((w >>> ((24 : Int32) &&& 31)) &&& (255 : Int32))), .val (.int ((w >>> ((16 : Int32) &&& 31)) &&& (255 : Int32))), .unset, .unset, .unset, .unset, .unset, .unset, .unset, .unset, .unset, .unset, .unset, .unset, .unset, .unset, .unset] [(.int (8 : Int32)), (.int w)])
  refine Goes.go (fun _ => XS.ishr S.here B.x rfl (B.d at_30) rfl) ?_
  show Goes _ _ _ _ T (mkF me_ 31 #[.val (.int w), .val (.int a), .val (.int b), .val (.int c), .val (.int d), .val (.ref b1), .val (.int ((w >>> ((24 : Int32) &&& 31)) &&& (255 : Int32))), .val (.int ((w >>> ((16 : Int32) &&& 31)) &&& (255 : Int32))), .unset, .unset, .unset, .unset, .unset, .unset, .unset, .unset, .unset, .unset, .unset, .unset, .unset, .unset, .unset] [(.int (w >>> ((8 : Int32) &&& 31)))])
  refine Goes.go (fun _ => XS.sipush S.here B.x rfl (B.d at_31)) ?_
  show Goes _ _ _ _ T (mkF me_ 34 #[.val (.int w), .val (.int a), .val (.int b), .val (.int c), .val (.int d), .val (.ref b1), .val (.int ((w >>> ((24 : Int32) &&& 31)) &&& (255 : Int32))), .val (.int ((w >>> ((16 : Int32) &&& 31)) &&& (255 : Int32))), .unset, .unset, .unset, .unset, .unset, .unset, .unset, .unset, .unset, .unset, .unset, .unset, .unset, .unset, .unset] [(.int (255 : Int32)), (.int (w >>> ((8 : Int32) &&& 31)))])
  refine Goes.go (fun _ => XS.iand S.here B.x rfl (B.d at_34) rfl) ?_
  show Goes _ _ _ _ T (mkF me_ 35 #[.val (.int w), .val (.int a), .val (.int b), .val (.int c), .val (.int d), .val (.ref b1), .val (.int ((w >>> ((24 : Int32) &&& 31)) &&& (255 : Int32))), .val (.int ((w >>> ((16 : Int32) &&& 31)) &&& (255 : Int32))), .unset, .unset, .unset, .unset, .unset, .unset, .unset, .unset, .unset, .unset, .unset, .unset, .unset, .unset, .unset] [(.int ((w >>> ((8 : Int32) &&& 31)) &&& (255 : Int32)))])
  refine Goes.go (fun _ => XS.istore S.here B.x rfl (B.d at_35) rfl (l' := #[.val (.int w), .val (.int a), .val (.int b), .val (.int c), .val (.int d), .val (.ref b1), .val (.int ((w >>> ((24 : Int32) &&& 31)) &&& (255 : Int32))), .val (.int ((w >>> ((16 : Int32) &&& 31)) &&& (255 : Int32))), .val (.int ((w >>> ((8 : Int32) &&& 31)) &&& (255 : Int32))), .unset, .unset, .unset, .unset, .unset, .unset, .unset, .unset, .unset, .unset, .unset, .unset, .unset, .unset]) rfl) ?_
  show Goes _ _ _ _ T (mkF me_ 37 #[.val (.int w), .val (.int a), .val (.int b), .val (.int c), .val (.int d), .val (.ref b1), .val (.int ((w >>> ((24 : Int32) &&& 31)) &&& (255 : Int32))), .val (.int ((w >>> ((16 : Int32) &&& 31)) &&& (255 : Int32))), .val (.int ((w >>> ((8 : Int32) &&& 31)) &&& (255 : Int32))), .unset, .unset, .unset, .unset, .unset, .unset, .unset, .unset, .unset, .unset, .unset, .unset, .unset, .unset] [])
  refine Goes.go (fun _ => XS.iloadN S.here B.x rfl (B.d at_37) rfl) ?_
  show Goes _ _ _ _ T (mkF me_ 38 #[.val (.int w), .val (.int a), .val (.int b), .val (.int c), .val (.int d), .val (.ref b1), .val (.int ((w >>> ((24 : Int32) &&& 31)) &&& (255 : Int32))), .val (.int ((w >>> ((16 : Int32) &&& 31)) &&& (255 : Int32))), .val (.int ((w >>> ((8 : Int32) &&& 31)) &&& (255 : Int32))), .unset, .unset, .unset, .unset, .unset, .unset, .unset, .unset, .unset, .unset, .unset, .unset, .unset, .unset] [(.int w)])
  refine Goes.go (fun _ => XS.sipush S.here B.x rfl (B.d at_38)) ?_
  show Goes _ _ _ _ T (mkF me_ 41 #[.val (.int w), .val (.int a), .val (.int b), .val (.int c), .val (.int d), .val (.ref b1), .val (.int ((w >>> ((24 : Int32) &&& 31)) &&& (255 : Int32))), .val (.int ((w >>> ((16 : Int32) &&& 31)) &&& (255 : Int32))), .val (.int ((w >>> ((8 : Int32) &&& 31)) &&& (255 : Int32))), .unset, .unset, .unset, .unset, .unset, .unset, .unset, .unset, .unset, .unset, .unset, .unset, .unset, .unset] [(.int (255 : Int32)), (.int w)])
  refine Goes.go (fun _ => XS.iand S.here B.x rfl (B.d at_41) rfl) ?_
  show Goes _ _ _ _ T (mkF me_ 42 #[.val (.int w), .val (.int a), .val (.int b), .val (.int c), .val (.int d), .val (.ref b1), .val (.int ((w >>> ((24 : Int32) &&& 31)) &&& (255 : Int32))), .val (.int ((w >>> ((16 : Int32) &&& 31)) &&& (255 : Int32))), .val (.int ((w >>> ((8 : Int32) &&& 31)) &&& (255 : Int32))), .unset, .unset, .unset, .unset, .unset, .unset, .unset, .unset, .unset, .unset, .unset, .unset, .unset, .unset] [(.int (w &&& (255 : Int32)))])
  refine Goes.go (fun _ => XS.istore S.here B.x rfl (B.d at_42) rfl (l' := #[.val (.int w), .val (.int a), .val (.int b), .val (.int c), .val (.int d), .val (.ref b1), .val (.int ((w >>> ((24 : Int32) &&& 31)) &&& (255 : Int32))), .val (.int ((w >>> ((16 : Int32) &&& 31)) &&& (255 : Int32))), .val (.int ((w >>> ((8 : Int32) &&& 31)) &&& (255 : Int32))), .val (.int (w &&& (255 : Int32))), .unset, .unset, .unset, .unset, .unset, .unset, .unset, .unset, .unset, .unset, .unset, .unset, .unset]) rfl) ?_
  show Goes _ _ _ _ T (mkF me_ 44 #[.val (.int w), .val (.int a), .val (.int b), .val (.int c), .val (.int d), .val (.ref b1), .val (.int ((w >>> ((24 : Int32) &&& 31)) &&& (255 : Int32))), .val (.int ((w >>> ((16 : Int32) &&& 31)) &&& (255 : Int32))), .val (.int ((w >>> ((8 : Int32) &&& 31)) &&& (255 : Int32))), .val (.int (w &&& (255 : Int32))), .unset, .unset, .unset, .unset, .unset, .unset, .unset, .unset, .unset, .unset, .unset, .unset, .unset] [])
  refine Goes.go (fun _ => XS.aload S.here B.x rfl (B.d at_44) rfl rfl) ?_
  show Goes _ _ _ _ T (mkF me_ 46 #[.val (.int w), .val (.int a), .val (.int b), .val (.int c), .val (.int d), .val (.ref b1), .val (.int ((w >>> ((24 : Int32) &&& 31)) &&& (255 : Int32))), .val (.int ((w >>> ((16 : Int32) &&& 31)) &&& (255 : Int32))), .val (.int ((w >>> ((8 : Int32) &&& 31)) &&& (255 : Int32))), .val (.int (w &&& (255 : Int32))), .unset, .unset, .unset, .unset, .unset, .unset, .unset, .unset, .unset, .unset, .unset, .unset, .unset] [(.ref b1)])
  refine Goes.go (fun _ => XS.bipush S.here B.x rfl (B.d at_46)) ?_
  show Goes _ _ _ _ T (mkF me_ 48 #[.val (.int w), .val (.int a), .val (.int b), .val (.int c), .val (.int d), .val (.ref b1), .val (.int ((w >>> ((24 : Int32) &&& 31)) &&& (255 : Int32))), .val (.int ((w >>> ((16 : Int32) &&& 31)) &&& (255 : Int32))), .val (.int ((w >>> ((8 : Int32) &&& 31)) &&& (255 : Int32))), .val (.int (w &&& (255 : Int32))), .unset, .unset, .unset, .unset, .unset, .unset, .unset, .unset, .unset, .unset, .unset, .unset, .unset] [(.int (18 : Int32)), (.ref b1)])
  refine Goes.go (fun _ => XS.iload S.here B.x rfl (B.d at_48) rfl) ?_
  show Goes _ _ _ _ T (mkF me_ 50 #[.val (.int w), .val (.int a), .val (.int b), .val (.int c), .val (.int d), .val (.ref b1), .val (.int ((w >>> ((24 : Int32) &&& 31)) &&& (255 : Int32))), .val (.int ((w >>> ((16 : Int32) &&& 31)) &&& (255 : Int32))), .val (.int ((w >>> ((8 : Int32) &&& 31)) &&& (255 : Int32))), .val (.int (w &&& (255 : Int32))), .unset, .unset, .unset, .unset, .unset, .unset, .unset, .unset, .unset, .unset, .unset, .unset, .unset] [(.int ((w >>> ((24 : Int32) &&& 31)) &&& (255 : Int32))), (.int (18 : Int32)), (.ref b1)])
  refine Goes.go (fun _ => XS.iadd S.here B.x rfl (B.d at_50) rfl) ?_
  show Goes _ _ _ _ T (mkF me_ 51 #[.val (.int w), .val (.int a), .val (.int b), .val (.int c), .val (.int d), .val (.ref b1), .val (.int ((w >>> ((24 : Int32) &&& 31)) &&& (255 : Int32))), .val (.int ((w >>> ((16 : Int32) &&& 31)) &&& (255 : Int32))), .val (.int ((w >>> ((8 : Int32) &&& 31)) &&& (255 : Int32))), .val (.int (w &&& (255 : Int32))), .unset, .unset, .unset, .unset, .unset, .unset, .unset, .unset, .unset, .unset, .unset, .unset, .unset] [(.int ((18 : Int32) + ((w >>> ((24 : Int32) &&& 31)) &&& (255 : Int32)))), (.ref b1)])
  refine Goes.go (fun _ => XS.iloadN S.here B.x rfl (B.d at_51) rfl) ?_
  show Goes _ _ _ _ T (mkF me_ 52 #[.val (.int w), .val (.int a), .val (.int b), .val (.int c), .val (.int d), .val (.ref b1), .val (.int ((w >>> ((24 : Int32) &&& 31)) &&& (255 : Int32))), .val (.int ((w >>> ((16 : Int32) &&& 31)) &&& (255 : Int32))), .val (.int ((w >>> ((8 : Int32) &&& 31)) &&& (255 : Int32))), .val (.int (w &&& (255 : Int32))), .unset, .unset, .unset, .unset, .unset, .unset, .unset, .unset, .unset, .unset, .unset, .unset, .unset] [(.int a), (.int ((18 : Int32) + ((w >>> ((24 : Int32) &&& 31)) &&& (255 : Int32)))), (.ref b1)])
  refine Goes.callS (argsL := [(.int a)]) (rest := [(.int ((18 : Int32) + ((w >>> ((24 : Int32) &&& 31)) &&& (255 : Int32)))), (.ref b1)]) (W := 2) S B (rm_packed l Z aw hw a _ n0) (w1 hw) (w2 hw) (w3 hw) (w4 hw) (by decide) (by decide) (by decide) (by decide) (by decide) rfl (lenOf pd_0 rfl) rfl (Nat.le_of_eq rfl) at_52 ?_
  intro v T h S hQ
  obtain ⟨rfl, hh⟩ := hQ
  replace hh := hh.symm
  subst hh
  show Goes _ _ _ _ T (mkF me_ 55 #[.val (.int w), .val (.int a), .val (.int b), .val (.int c), .val (.int d), .val (.ref b1), .val (.int ((w >>> ((24 : Int32) &&& 31)) &&& (255 : Int32))), .val (.int ((w >>> ((16 : Int32) &&& 31)) &&& (255 : Int32))), .val (.int ((w >>> ((8 : Int32) &&& 31)) &&& (255 : Int32))), .val (.int (w &&& (255 : Int32))), .unset, .unset, .unset, .unset, .unset, .unset, .unset, .unset, .unset, .unset, .unset, .unset, .unset] [(.long (own_pk a)), (.int ((18 : Int32) + ((w >>> ((24 : Int32) &&& 31)) &&& (255 : Int32)))), (.ref b1)])
  refine Goes.lastore S B A_b1 (own_in0 w).1 (own_in0 w).2 g_b1 at_55 ?_
  intro T h S W A_b1
  replace A_b1 : Ary Z h b1 .long 1042 (aup (fun _ => (.long 0)) ((18 : Int32) + ((w >>> ((24 : Int32) &&& 31)) &&& (255 : Int32))).toNatClampNeg (.long (own_pk a))) := A_b1
  show Goes _ _ _ _ T (mkF me_ 56 #[.val (.int w), .val (.int a), .val (.int b), .val (.int c), .val (.int d), .val (.ref b1), .val (.int ((w >>> ((24 : Int32) &&& 31)) &&& (255 : Int32))), .val (.int ((w >>> ((16 : Int32) &&& 31)) &&& (255 : Int32))), .val (.int ((w >>> ((8 : Int32) &&& 31)) &&& (255 : Int32))), .val (.int (w &&& (255 : Int32))), .unset, .unset, .unset, .unset, .unset, .unset, .unset, .unset, .unset, .unset, .unset, .unset, .unset] [])
  refine Goes.go (fun _ => XS.aload S.here B.x rfl (B.d at_56) rfl rfl) ?_
  show Goes _ _ _ _ T (mkF me_ 58 #[.val (.int w), .val (.int a), .val (.int b), .val (.int c), .val (.int d), .val (.ref b1), .val (.int ((w >>> ((24 : Int32) &&& 31)) &&& (255 : Int32))), .val (.int ((w >>> ((16 : Int32) &&& 31)) &&& (255 : Int32))), .val (.int ((w >>> ((8 : Int32) &&& 31)) &&& (255 : Int32))), .val (.int (w &&& (255 : Int32))), .unset, .unset, .unset, .unset, .unset, .unset, .unset, .unset, .unset, .unset, .unset, .unset, .unset] [(.ref b1)])
  refine Goes.go (fun _ => XS.sipush S.here B.x rfl (B.d at_58)) ?_
  show Goes _ _ _ _ T (mkF me_ 61 #[.val (.int w), .val (.int a), .val (.int b), .val (.int c), .val (.int d), .val (.ref b1), .val (.int ((w >>> ((24 : Int32) &&& 31)) &&& (255 : Int32))), .val (.int ((w >>> ((16 : Int32) &&& 31)) &&& (255 : Int32))), .val (.int ((w >>> ((8 : Int32) &&& 31)) &&& (255 : Int32))), .val (.int (w &&& (255 : Int32))), .unset, .unset, .unset, .unset, .unset, .unset, .unset, .unset, .unset, .unset, .unset, .unset, .unset] [(.int (274 : Int32)), (.ref b1)])
  refine Goes.go (fun _ => XS.iload S.here B.x rfl (B.d at_61) rfl) ?_
  show Goes _ _ _ _ T (mkF me_ 63 #[.val (.int w), .val (.int a), .val (.int b), .val (.int c), .val (.int d), .val (.ref b1), .val (.int ((w >>> ((24 : Int32) &&& 31)) &&& (255 : Int32))), .val (.int ((w >>> ((16 : Int32) &&& 31)) &&& (255 : Int32))), .val (.int ((w >>> ((8 : Int32) &&& 31)) &&& (255 : Int32))), .val (.int (w &&& (255 : Int32))), .unset, .unset, .unset, .unset, .unset, .unset, .unset, .unset, .unset, .unset, .unset, .unset, .unset] [(.int ((w >>> ((16 : Int32) &&& 31)) &&& (255 : Int32))), (.int (274 : Int32)), (.ref b1)])
  refine Goes.go (fun _ => XS.iadd S.here B.x rfl (B.d at_63) rfl) ?_
  show Goes _ _ _ _ T (mkF me_ 64 #[.val (.int w), .val (.int a), .val (.int b), .val (.int c), .val (.int d), .val (.ref b1), .val (.int ((w >>> ((24 : Int32) &&& 31)) &&& (255 : Int32))), .val (.int ((w >>> ((16 : Int32) &&& 31)) &&& (255 : Int32))), .val (.int ((w >>> ((8 : Int32) &&& 31)) &&& (255 : Int32))), .val (.int (w &&& (255 : Int32))), .unset, .unset, .unset, .unset, .unset, .unset, .unset, .unset, .unset, .unset, .unset, .unset, .unset] [(.int ((274 : Int32) + ((w >>> ((16 : Int32) &&& 31)) &&& (255 : Int32)))), (.ref b1)])
  refine Goes.go (fun _ => XS.iloadN S.here B.x rfl (B.d at_64) rfl) ?_
  show Goes _ _ _ _ T (mkF me_ 65 #[.val (.int w), .val (.int a), .val (.int b), .val (.int c), .val (.int d), .val (.ref b1), .val (.int ((w >>> ((24 : Int32) &&& 31)) &&& (255 : Int32))), .val (.int ((w >>> ((16 : Int32) &&& 31)) &&& (255 : Int32))), .val (.int ((w >>> ((8 : Int32) &&& 31)) &&& (255 : Int32))), .val (.int (w &&& (255 : Int32))), .unset, .unset, .unset, .unset, .unset, .unset, .unset, .unset, .unset, .unset, .unset, .unset, .unset] [(.int b), (.int ((274 : Int32) + ((w >>> ((16 : Int32) &&& 31)) &&& (255 : Int32)))), (.ref b1)])
  refine Goes.callS (argsL := [(.int b)]) (rest := [(.int ((274 : Int32) + ((w >>> ((16 : Int32) &&& 31)) &&& (255 : Int32)))), (.ref b1)]) (W := 2) S B (rm_packed l Z aw hw b _ n0) (w1 hw) (w2 hw) (w3 hw) (w4 hw) (by decide) (by decide) (by decide) (by decide) (by decide) rfl (lenOf pd_0 rfl) rfl (Nat.le_of_eq rfl) at_65 ?_
  intro v T h S hQ
  obtain ⟨rfl, hh⟩ := hQ
  replace hh := hh.symm
  subst hh
  show Goes _ _ _ _ T (mkF me_ 68 #[.val (.int w), .val (.int a), .val (.int b), .val (.int c), .val (.int d), .val (.ref b1), .val (.int ((w >>> ((24 : Int32) &&& 31)) &&& (255 : Int32))), .val (.int ((w >>> ((16 : Int32) &&& 31)) &&& (255 : Int32))), .val (.int ((w >>> ((8 : Int32) &&& 31)) &&& (255 : Int32))), .val (.int (w &&& (255 : Int32))), .unset, .unset, .unset, .unset, .unset, .unset, .unset, .unset, .unset, .unset, .unset, .unset, .unset] [(.long (own_pk b)), (.int ((274 : Int32) + ((w >>> ((16 : Int32) &&& 31)) &&& (255 : Int32)))), (.ref b1)])
  refine Goes.lastore S B A_b1 (own_in1 w).1 (own_in1 w).2 g_b1 at_68 ?_
  intro T h S W A_b1
  replace A_b1 : Ary Z h b1 .long 1042 (aup (aup (fun _ => (.long 0)) ((18 : Int32) + ((w >>> ((24 : Int32) &&& 31)) &&& (255 : Int32))).toNatClampNeg (.long (own_pk a))) ((274 : Int32) + ((w >>> ((16 : Int32) &&& 31)) &&& (255 : Int32))).toNatClampNeg (.long (own_pk b))) := A_b1
  show Goes _ _ _ _ T (mkF me_ 69 #[.val (.int w), .val (.int a), .val (.int b), .val (.int c), .val (.int d), .val (.ref b1), .val (.int ((w >>> ((24 : Int32) &&& 31)) &&& (255 : Int32))), .val (.int ((w >>> ((16 : Int32) &&& 31)) &&& (255 : Int32))), .val (.int ((w >>> ((8 : Int32) &&& 31)) &&& (255 : Int32))), .val (.int (w &&& (255 : Int32))), .unset, .unset, .unset, .unset, .unset, .unset, .unset, .unset, .unset, .unset, .unset, .unset, .unset] [])
  refine Goes.go (fun _ => XS.aload S.here B.x rfl (B.d at_69) rfl rfl) ?_
  show Goes _ _ _ _ T (mkF me_ 71 #[.val (.int w), .val (.int a), .val (.int b), .val (.int c), .val (.int d), .val (.ref b1), .val (.int ((w >>> ((24 : Int32) &&& 31)) &&& (255 : Int32))), .val (.int ((w >>> ((16 : Int32) &&& 31)) &&& (255 : Int32))), .val (.int ((w >>> ((8 : Int32) &&& 31)) &&& (255 : Int32))), .val (.int (w &&& (255 : Int32))), .unset, .unset, .unset, .unset, .unset, .unset, .unset, .unset, .unset, .unset, .unset, .unset, .unset] [(.ref b1)])
  refine Goes.go (fun _ => XS.sipush S.here B.x rfl (B.d at_71)) ?_
  show Goes _ _ _ _ T (mkF me_ 74 #[.val (.int w), .val (.int a), .val (.int b), .val (.int c), .val (.int d), .val (.ref b1), .val (.int ((w >>> ((24 : Int32) &&& 31)) &&& (255 : Int32))), .val (.int ((w >>> ((16 : Int32) &&& 31)) &&& (255 : Int32))), .val (.int ((w >>> ((8 : Int32) &&& 31)) &&& (255 : Int32))), .val (.int (w &&& (255 : Int32))), .unset, .unset, .unset, .unset, .unset, .unset, .unset, .unset, .unset, .unset, .unset, .unset, .unset] [(.int (530 : Int32)), (.ref b1)])
  refine Goes.go (fun _ => XS.iload S.here B.x rfl (B.d at_74) rfl) ?_
  show Goes _ _ _ _ T (mkF me_ 76 #[.val (.int w), .val (.int a), .val (.int b), .val (.int c), .val (.int d), .val (.ref b1), .val (.int ((w >>> ((24 : Int32) &&& 31)) &&& (255 : Int32))), .val (.int ((w >>> ((16 : Int32) &&& 31)) &&& (255 : Int32))), .val (.int ((w >>> ((8 : Int32) &&& 31)) &&& (255 : Int32))), .val (.int (w &&& (255 : Int32))), .unset, .unset, .unset, .unset, .unset, .unset, .unset, .unset, .unset, .unset, .unset, .unset, .unset] [(.int ((w >>> ((8 : Int32) &&& 31)) &&& (255 : Int32))), (.int (530 : Int32)), (.ref b1)])
  refine Goes.go (fun _ => XS.iadd S.here B.x rfl (B.d at_76) rfl) ?_
  show Goes _ _ _ _ T (mkF me_ 77 #[.val (.int w), .val (.int a), .val (.int b), .val (.int c), .val (.int d), .val (.ref b1), .val (.int ((w >>> ((24 : Int32) &&& 31)) &&& (255 : Int32))), .val (.int ((w >>> ((16 : Int32) &&& 31)) &&& (255 : Int32))), .val (.int ((w >>> ((8 : Int32) &&& 31)) &&& (255 : Int32))), .val (.int (w &&& (255 : Int32))), .unset, .unset, .unset, .unset, .unset, .unset, .unset, .unset, .unset, .unset, .unset, .unset, .unset] [(.int ((530 : Int32) + ((w >>> ((8 : Int32) &&& 31)) &&& (255 : Int32)))), (.ref b1)])
  refine Goes.go (fun _ => XS.iloadN S.here B.x rfl (B.d at_77) rfl) ?_
  show Goes _ _ _ _ T (mkF me_ 78 #[.val (.int w), .val (.int a), .val (.int b), .val (.int c), .val (.int d), .val (.ref b1), .val (.int ((w >>> ((24 : Int32) &&& 31)) &&& (255 : Int32))), .val (.int ((w >>> ((16 : Int32) &&& 31)) &&& (255 : Int32))), .val (.int ((w >>> ((8 : Int32) &&& 31)) &&& (255 : Int32))), .val (.int (w &&& (255 : Int32))), .unset, .unset, .unset, .unset, .unset, .unset, .unset, .unset, .unset, .unset, .unset, .unset, .unset] [(.int c), (.int ((530 : Int32) + ((w >>> ((8 : Int32) &&& 31)) &&& (255 : Int32)))), (.ref b1)])
  refine Goes.callS (argsL := [(.int c)]) (rest := [(.int ((530 : Int32) + ((w >>> ((8 : Int32) &&& 31)) &&& (255 : Int32)))), (.ref b1)]) (W := 2) S B (rm_packed l Z aw hw c _ n0) (w1 hw) (w2 hw) (w3 hw) (w4 hw) (by decide) (by decide) (by decide) (by decide) (by decide) rfl (lenOf pd_0 rfl) rfl (Nat.le_of_eq rfl) at_78 ?_
  intro v T h S hQ
  obtain ⟨rfl, hh⟩ := hQ
  replace hh := hh.symm
  subst hh
  show Goes _ _ _ _ T (mkF me_ 81 #[.val (.int w), .val (.int a), .val (.int b), .val (.int c), .val (.int d), .val (.ref b1), .val (.int ((w >>> ((24 : Int32) &&& 31)) &&& (255 : Int32))), .val (.int ((w >>> ((16 : Int32) &&& 31)) &&& (255 : Int32))), .val (.int ((w >>> ((8 : Int32) &&& 31)) &&& (255 : Int32))), .val (.int (w &&& (255 : Int32))), .unset, .unset, .unset, .unset, .unset, .unset, .unset, .unset, .unset, .unset, .unset, .unset, .unset] [(.long (own_pk c)), (.int ((530 : Int32) + ((w >>> ((8 : Int32) &&& 31)) &&& (255 : Int32)))), (.ref b1)])
  refine Goes.lastore S B A_b1 (own_in2 w).1 (own_in2 w).2 g_b1 at_81 ?_
  intro T h S W A_b1
  replace A_b1 : Ary Z h b1 .long 1042 (aup (aup (aup (fun _ => (.long 0)) ((18 : Int32) + ((w >>> ((24 : Int32) &&& 31)) &&& (255 : Int32))).toNatClampNeg (.long (own_pk a))) ((274 : Int32) + ((w >>> ((16 : Int32) &&& 31)) &&& (255 : Int32))).toNatClampNeg (.long (own_pk b))) ((530 : Int32) + ((w >>> ((8 : Int32) &&& 31)) &&& (255 : Int32))).toNatClampNeg (.long (own_pk c))) := A_b1
  show Goes _ _ _ _ T (mkF me_ 82 #[.val (.int w), .val (.int a), .val (.int b), .val (.int c), .val (.int d), .val (.ref b1), .val (.int ((w >>> ((24 : Int32) &&& 31)) &&& (255 : Int32))), .val (.int ((w >>> ((16 : Int32) &&& 31)) &&& (255 : Int32))), .val (.int ((w >>> ((8 : Int32) &&& 31)) &&& (255 : Int32))), .val (.int (w &&& (255 : Int32))), .unset, .unset, .unset, .unset, .unset, .unset, .unset, .unset, .unset, .unset, .unset, .unset, .unset] [])
  refine Goes.go (fun _ => XS.aload S.here B.x rfl (B.d at_82) rfl rfl) ?_
  show Goes _ _ _ _ T (mkF me_ 84 #[.val (.int w), .val (.int a), .val (.int b), .val (.int c), .val (.int d), .val (.ref b1), .val (.int ((w >>> ((24 : Int32) &&& 31)) &&& (255 : Int32))), .val (.int ((w >>> ((16 : Int32) &&& 31)) &&& (255 : Int32))), .val (.int ((w >>> ((8 : Int32) &&& 31)) &&& (255 : Int32))), .val (.int (w &&& (255 : Int32))), .unset, .unset, .unset, .unset, .unset, .unset, .unset, .unset, .unset, .unset, .unset, .unset, .unset] [(.ref b1)])
  refine Goes.go (fun _ => XS.sipush S.here B.x rfl (B.d at_84)) ?_
  show Goes _ _ _ _ T (mkF me_ 87 #[.val (.int w), .val (.int a), .val (.int b), .val (.int c), .val (.int d), .val (.ref b1), .val (.int ((w >>> ((24 : Int32) &&& 31)) &&& (255 : Int32))), .val (.int ((w >>> ((16 : Int32) &&& 31)) &&& (255 : Int32))), .val (.int ((w >>> ((8 : Int32) &&& 31)) &&& (255 : Int32))), .val (.int (w &&& (255 : Int32))), .unset, .unset, .unset, .unset, .unset, .unset, .unset, .unset, .unset, .unset, .unset, .unset, .unset] [(.int (786 : Int32)), (.ref b1)])
  refine Goes.go (fun _ => XS.iload S.here B.x rfl (B.d at_87) rfl) ?_
  show Goes _ _ _ _ T (mkF me_ 89 #[.val (.int w), .val (.int a), .val (.int b), .val (.int c), .val (.int d), .val (.ref b1), .val (.int ((w >>> ((24 : Int32) &&& 31)) &&& (255 : Int32))), .val (.int ((w >>> ((16 : Int32) &&& 31)) &&& (255 : Int32))), .val (.int ((w >>> ((8 : Int32) &&& 31)) &&& (255 : Int32))), .val (.int (w &&& (255 : Int32))), .unset, .unset, .unset, .unset, .unset, .unset, .unset, .unset, .unset, .unset, .unset, .unset, .unset] [(.int (w &&& (255 : Int32))), (.int (786 : Int32)), (.ref b1)])
  refine Goes.go (fun _ => XS.iadd S.here B.x rfl (B.d at_89) rfl) ?_
  show Goes _ _ _ _ T (mkF me_ 90 #[.val (.int w), .val (.int a), .val (.int b), .val (.int c), .val (.int d), .val (.ref b1), .val (.int ((w >>> ((24 : Int32) &&& 31)) &&& (255 : Int32))), .val (.int ((w >>> ((16 : Int32) &&& 31)) &&& (255 : Int32))), .val (.int ((w >>> ((8 : Int32) &&& 31)) &&& (255 : Int32))), .val (.int (w &&& (255 : Int32))), .unset, .unset, .unset, .unset, .unset, .unset, .unset, .unset, .unset, .unset, .unset, .unset, .unset] [(.int ((786 : Int32) + (w &&& (255 : Int32)))), (.ref b1)])
  refine Goes.go (fun _ => XS.iload S.here B.x rfl (B.d at_90) rfl) ?_
  show Goes _ _ _ _ T (mkF me_ 92 #[.val (.int w), .val (.int a), .val (.int b), .val (.int c), .val (.int d), .val (.ref b1), .val (.int ((w >>> ((24 : Int32) &&& 31)) &&& (255 : Int32))), .val (.int ((w >>> ((16 : Int32) &&& 31)) &&& (255 : Int32))), .val (.int ((w >>> ((8 : Int32) &&& 31)) &&& (255 : Int32))), .val (.int (w &&& (255 : Int32))), .unset, .unset, .unset, .unset, .unset, .unset, .unset, .unset, .unset, .unset, .unset, .unset, .unset] [(.int d), (.int ((786 : Int32) + (w &&& (255 : Int32)))), (.ref b1)])
  refine Goes.callS (argsL := [(.int d)]) (rest := [(.int ((786 : Int32) + (w &&& (255 : Int32)))), (.ref b1)]) (W := 2) S B (rm_packed l Z aw hw d _ n0) (w1 hw) (w2 hw) (w3 hw) (w4 hw) (by decide) (by decide) (by decide) (by decide) (by decide) rfl (lenOf pd_0 rfl) rfl (Nat.le_of_eq rfl) at_92 ?_
  intro v T h S hQ
  obtain ⟨rfl, hh⟩ := hQ
  replace hh := hh.symm
  subst hh
  show Goes _ _ _ _ T (mkF me_ 95 #[.val (.int w), .val (.int a), .val (.int b), .val (.int c), .val (.int d), .val (.ref b1), .val (.int ((w >>> ((24 : Int32) &&& 31)) &&& (255 : Int32))), .val (.int ((w >>> ((16 : Int32) &&& 31)) &&& (255 : Int32))), .val (.int ((w >>> ((8 : Int32) &&& 31)) &&& (255 : Int32))), .val (.int (w &&& (255 : Int32))), .unset, .unset, .unset, .unset, .unset, .unset, .unset, .unset, .unset, .unset, .unset, .unset, .unset] [(.long (own_pk d)), (.int ((786 : Int32) + (w &&& (255 : Int32)))), (.ref b1)])
  refine Goes.lastore S B A_b1 (own_in3 w).1 (own_in3 w).2 g_b1 at_95 ?_
  intro T h S W A_b1
  replace A_b1 : Ary Z h b1 .long 1042 (aup (aup (aup (aup (fun _ => (.long 0)) ((18 : Int32) + ((w >>> ((24 : Int32) &&& 31)) &&& (255 : Int32))).toNatClampNeg (.long (own_pk a))) ((274 : Int32) + ((w >>> ((16 : Int32) &&& 31)) &&& (255 : Int32))).toNatClampNeg (.long (own_pk b))) ((530 : Int32) + ((w >>> ((8 : Int32) &&& 31)) &&& (255 : Int32))).toNatClampNeg (.long (own_pk c))) ((786 : Int32) + (w &&& (255 : Int32))).toNatClampNeg (.long (own_pk d))) := A_b1
  show Goes _ _ _ _ T (mkF me_ 96 #[.val (.int w), .val (.int a), .val (.int b), .val (.int c), .val (.int d), .val (.ref b1), .val (.int ((w >>> ((24 : Int32) &&& 31)) &&& (255 : Int32))), .val (.int ((w >>> ((16 : Int32) &&& 31)) &&& (255 : Int32))), .val (.int ((w >>> ((8 : Int32) &&& 31)) &&& (255 : Int32))), .val (.int (w &&& (255 : Int32))), .unset, .unset, .unset, .unset, .unset, .unset, .unset, .unset, .unset, .unset, .unset, .unset, .unset] [])
  refine Goes.go (fun _ => XS.aload S.here B.x rfl (B.d at_96) rfl rfl) ?_
  show Goes _ _ _ _ T (mkF me_ 98 #[.val (.int w), .val (.int a), .val (.int b), .val (.int c), .val (.int d), .val (.ref b1), .val (.int ((w >>> ((24 : Int32) &&& 31)) &&& (255 : Int32))), .val (.int ((w >>> ((16 : Int32) &&& 31)) &&& (255 : Int32))), .val (.int ((w >>> ((8 : Int32) &&& 31)) &&& (255 : Int32))), .val (.int (w &&& (255 : Int32))), .unset, .unset, .unset, .unset, .unset, .unset, .unset, .unset, .unset, .unset, .unset, .unset, .unset] [(.ref b1)])
  refine Goes.go (fun _ => XS.iloadN S.here B.x rfl (B.d at_98) rfl) ?_
  show Goes _ _ _ _ T (mkF me_ 99 #[.val (.int w), .val (.int a), .val (.int b), .val (.int c), .val (.int d), .val (.ref b1), .val (.int ((w >>> ((24 : Int32) &&& 31)) &&& (255 : Int32))), .val (.int ((w >>> ((16 : Int32) &&& 31)) &&& (255 : Int32))), .val (.int ((w >>> ((8 : Int32) &&& 31)) &&& (255 : Int32))), .val (.int (w &&& (255 : Int32))), .unset, .unset, .unset, .unset, .unset, .unset, .unset, .unset, .unset, .unset, .unset, .unset, .unset] [(.int w), (.ref b1)])
  refine Goes.go (fun _ => XS.iload S.here B.x rfl (B.d at_99) rfl) ?_
  show Goes _ _ _ _ T (mkF me_ 101 #[.val (.int w), .val (.int a), .val (.int b), .val (.int c), .val (.int d), .val (.ref b1), .val (.int ((w >>> ((24 : Int32) &&& 31)) &&& (255 : Int32))), .val (.int ((w >>> ((16 : Int32) &&& 31)) &&& (255 : Int32))), .val (.int ((w >>> ((8 : Int32) &&& 31)) &&& (255 : Int32))), .val (.int (w &&& (255 : Int32))), .unset, .unset, .unset, .unset, .unset, .unset, .unset, .unset, .unset, .unset, .unset, .unset, .unset] [(.int ((w >>> ((16 : Int32) &&& 31)) &&& (255 : Int32))), (.int w), (.ref b1)])
  refine Goes.callS (argsL := [(.ref b1), (.int w), (.int ((w >>> ((16 : Int32) &&& 31)) &&& (255 : Int32)))]) (rest := []) (W := 0) S B (rm_f l Z aw hw b1 w ((w >>> ((16 : Int32) &&& 31)) &&& (255 : Int32)) (aup (aup (aup (aup (fun _ => (.long 0)) ((18 : Int32) + ((w >>> ((24 : Int32) &&& 31)) &&& (255 : Int32))).toNatClampNeg (.long (own_pk a))) ((274 : Int32) + ((w >>> ((16 : Int32) &&& 31)) &&& (255 : Int32))).toNatClampNeg (.long (own_pk b))) ((530 : Int32) + ((w >>> ((8 : Int32) &&& 31)) &&& (255 : Int32))).toNatClampNeg (.long (own_pk c))) ((786 : Int32) + (w &&& (255 : Int32))).toNatClampNeg (.long (own_pk d))) (own_pk a) (own_pk b) (own_pk c) (own_pk d) _ n0 A_b1 (own_rd0 w).1 (own_rd0 w).2 (own_f0 w _ _ _ _ _) (own_rd1 w).1 (own_rd1 w).2 (own_f1 w _ _ _ _ _) (own_rd2 w).1 (own_rd2 w).2 (own_f2 w _ _ _ _ _) (own_rd3 w).1 (own_rd3 w).2 (own_f3 w _ _ _ _ _)) (w6 hw) (w7 hw) (w8 hw) (w9 hw) (by decide) (by decide) (by decide) (by decide) (by decide) rfl (lenOf pd_1 rfl) rfl (Nat.le_of_eq rfl) at_101 ?_
  intro v T h S hQ
  obtain ⟨rfl, hh⟩ := hQ
  replace hh := hh.symm
  subst hh
  show Goes _ _ _ _ T (mkF me_ 104 #[.val (.int w), .val (.int a), .val (.int b), .val (.int c), .val (.int d), .val (.ref b1), .val (.int ((w >>> ((24 : Int32) &&& 31)) &&& (255 : Int32))), .val (.int ((w >>> ((16 : Int32) &&& 31)) &&& (255 : Int32))), .val (.int ((w >>> ((8 : Int32) &&& 31)) &&& (255 : Int32))), .val (.int (w &&& (255 : Int32))), .unset, .unset, .unset, .unset, .unset, .unset, .unset, .unset, .unset, .unset, .unset, .unset, .unset] [(.long ((((own_pk a) + (own_pk b)) ^^^ (own_pk c)) + (own_pk d)))])
  refine Goes.go (fun _ => XS.lstore S.here B.x rfl (B.d at_104) rfl (l' := #[.val (.int w), .val (.int a), .val (.int b), .val (.int c), .val (.int d), .val (.ref b1), .val (.int ((w >>> ((24 : Int32) &&& 31)) &&& (255 : Int32))), .val (.int ((w >>> ((16 : Int32) &&& 31)) &&& (255 : Int32))), .val (.int ((w >>> ((8 : Int32) &&& 31)) &&& (255 : Int32))), .val (.int (w &&& (255 : Int32))), .val (.long ((((own_pk a) + (own_pk b)) ^^^ (own_pk c)) + (own_pk d))), .second, .unset, .unset, .unset, .unset, .unset, .unset, .unset, .unset, .unset, .unset, .unset]) rfl) ?_
  show Goes _ _ _ _ T (mkF me_ 106 #[.val (.int w), .val (.int a), .val (.int b), .val (.int c), .val (.int d), .val (.ref b1), .val (.int ((w >>> ((24 : Int32) &&& 31)) &&& (255 : Int32))), .val (.int ((w >>> ((16 : Int32) &&& 31)) &&& (255 : Int32))), .val (.int ((w >>> ((8 : Int32) &&& 31)) &&& (255 : Int32))), .val (.int (w &&& (255 : Int32))), .val (.long ((((own_pk a) + (own_pk b)) ^^^ (own_pk c)) + (own_pk d))), .second, .unset, .unset, .unset, .unset, .unset, .unset, .unset, .unset, .unset, .unset, .unset] [])
  refine Goes.go (fun _ => XS.iloadN S.here B.x rfl (B.d at_106) rfl) ?_
  show Goes _ _ _ _ T (mkF me_ 107 #[.val (.int w), .val (.int a), .val (.int b), .val (.int c), .val (.int d), .val (.ref b1), .val (.int ((w >>> ((24 : Int32) &&& 31)) &&& (255 : Int32))), .val (.int ((w >>> ((16 : Int32) &&& 31)) &&& (255 : Int32))), .val (.int ((w >>> ((8 : Int32) &&& 31)) &&& (255 : Int32))), .val (.int (w &&& (255 : Int32))), .val (.long ((((own_pk a) + (own_pk b)) ^^^ (own_pk c)) + (own_pk d))), .second, .unset, .unset, .unset, .unset, .unset, .unset, .unset, .unset, .unset, .unset, .unset] [(.int a)])
  refine Goes.go (fun _ => XS.i2l S.here B.x rfl (B.d at_107) rfl) ?_
  show Goes _ _ _ _ T (mkF me_ 108 #[.val (.int w), .val (.int a), .val (.int b), .val (.int c), .val (.int d), .val (.ref b1), .val (.int ((w >>> ((24 : Int32) &&& 31)) &&& (255 : Int32))), .val (.int ((w >>> ((16 : Int32) &&& 31)) &&& (255 : Int32))), .val (.int ((w >>> ((8 : Int32) &&& 31)) &&& (255 : Int32))), .val (.int (w &&& (255 : Int32))), .val (.long ((((own_pk a) + (own_pk b)) ^^^ (own_pk c)) + (own_pk d))), .second, .unset, .unset, .unset, .unset, .unset, .unset, .unset, .unset, .unset, .unset, .unset] [(.long a.toInt64)])
  refine Goes.ldcL S B (w5 hw) at_108 ?_
  show Goes _ _ _ _ T (mkF me_ 111 #[.val (.int w), .val (.int a), .val (.int b), .val (.int c), .val (.int d), .val (.ref b1), .val (.int ((w >>> ((24 : Int32) &&& 31)) &&& (255 : Int32))), .val (.int ((w >>> ((16 : Int32) &&& 31)) &&& (255 : Int32))), .val (.int ((w >>> ((8 : Int32) &&& 31)) &&& (255 : Int32))), .val (.int (w &&& (255 : Int32))), .val (.long ((((own_pk a) + (own_pk b)) ^^^ (own_pk c)) + (own_pk d))), .second, .unset, .unset, .unset, .unset, .unset, .unset, .unset, .unset, .unset, .unset, .unset] [(.long (4294967295 : Int64)), (.long a.toInt64)])
  refine Goes.go (fun _ => XS.land S.here B.x rfl (B.d at_111) rfl) ?_
  show Goes _ _ _ _ T (mkF me_ 112 #[.val (.int w), .val (.int a), .val (.int b), .val (.int c), .val (.int d), .val (.ref b1), .val (.int ((w >>> ((24 : Int32) &&& 31)) &&& (255 : Int32))), .val (.int ((w >>> ((16 : Int32) &&& 31)) &&& (255 : Int32))), .val (.int ((w >>> ((8 : Int32) &&& 31)) &&& (255 : Int32))), .val (.int (w &&& (255 : Int32))), .val (.long ((((own_pk a) + (own_pk b)) ^^^ (own_pk c)) + (own_pk d))), .second, .unset, .unset, .unset, .unset, .unset, .unset, .unset, .unset, .unset, .unset, .unset] [(.long (a.toInt64 &&& (4294967295 : Int64)))])
  refine Goes.go (fun _ => XS.iloadN S.here B.x rfl (B.d at_112) rfl) ?_
  show Goes _ _ _ _ T (mkF me_ 113 #[.val (.int w), .val (.int a), .val (.int b), .val (.int c), .val (.int d), .val (.ref b1), .val (.int ((w >>> ((24 : Int32) &&& 31)) &&& (255 : Int32))), .val (.int ((w >>> ((16 : Int32) &&& 31)) &&& (255 : Int32))), .val (.int ((w >>> ((8 : Int32) &&& 31)) &&& (255 : Int32))), .val (.int (w &&& (255 : Int32))), .val (.long ((((own_pk a) + (own_pk b)) ^^^ (own_pk c)) + (own_pk d))), .second, .unset, .unset, .unset, .unset, .unset, .unset, .unset, .unset, .unset, .unset, .unset] [(.int b), (.long (a.toInt64 &&& (4294967295 : Int64)))])
  refine Goes.go (fun _ => XS.i2l S.here B.x rfl (B.d at_113) rfl) ?_
  show Goes _ _ _ _ T (mkF me_ 114 #[.val (.int w), .val (.int a), .val (.int b), .val (.int c), .val (.int d), .val (.ref b1), .val (.int ((w >>> ((24 : Int32) &&& 31)) &&& (255 : Int32))), .val (.int ((w >>> ((16 : Int32) &&& 31)) &&& (255 : Int32))), .val (.int ((w >>> ((8 : Int32) &&& 31)) &&& (255 : Int32))), .val (.int (w &&& (255 : Int32))), .val (.long ((((own_pk a) + (own_pk b)) ^^^ (own_pk c)) + (own_pk d))), .second, .unset, .unset, .unset, .unset, .unset, .unset, .unset, .unset, .unset, .unset, .unset] [(.long b.toInt64), (.long (a.toInt64 &&& (4294967295 : Int64)))])
  refine Goes.ldcL S B (w5 hw) at_114 ?_
  show Goes _ _ _ _ T (mkF me_ 117 #[.val (.int w), .val (.int a), .val (.int b), .val (.int c), .val (.int d), .val (.ref b1), .val (.int ((w >>> ((24 : Int32) &&& 31)) &&& (255 : Int32))), .val (.int ((w >>> ((16 : Int32) &&& 31)) &&& (255 : Int32))), .val (.int ((w >>> ((8 : Int32) &&& 31)) &&& (255 : Int32))), .val (.int (w &&& (255 : Int32))), .val (.long ((((own_pk a) + (own_pk b)) ^^^ (own_pk c)) + (own_pk d))), .second, .unset, .unset, .unset, .unset, .unset, .unset, .unset, .unset, .unset, .unset, .unset] [(.long (4294967295 : Int64)), (.long b.toInt64), (.long (a.toInt64 &&& (4294967295 : Int64)))])
  refine Goes.go (fun _ => XS.land S.here B.x rfl (B.d at_117) rfl) ?_
  show Goes _ _ _ _ T (mkF me_ 118 #[.val (.int w), .val (.int a), .val (.int b), .val (.int c), .val (.int d), .val (.ref b1), .val (.int ((w >>> ((24 : Int32) &&& 31)) &&& (255 : Int32))), .val (.int ((w >>> ((16 : Int32) &&& 31)) &&& (255 : Int32))), .val (.int ((w >>> ((8 : Int32) &&& 31)) &&& (255 : Int32))), .val (.int (w &&& (255 : Int32))), .val (.long ((((own_pk a) + (own_pk b)) ^^^ (own_pk c)) + (own_pk d))), .second, .unset, .unset, .unset, .unset, .unset, .unset, .unset, .unset, .unset, .unset, .unset] [(.long (b.toInt64 &&& (4294967295 : Int64))), (.long (a.toInt64 &&& (4294967295 : Int64)))])
  refine Goes.go (fun _ => XS.ladd S.here B.x rfl (B.d at_118) rfl) ?_
  show Goes _ _ _ _ T (mkF me_ 119 #[.val (.int w), .val (.int a), .val (.int b), .val (.int c), .val (.int d), .val (.ref b1), .val (.int ((w >>> ((24 : Int32) &&& 31)) &&& (255 : Int32))), .val (.int ((w >>> ((16 : Int32) &&& 31)) &&& (255 : Int32))), .val (.int ((w >>> ((8 : Int32) &&& 31)) &&& (255 : Int32))), .val (.int (w &&& (255 : Int32))), .val (.long ((((own_pk a) + (own_pk b)) ^^^ (own_pk c)) + (own_pk d))), .second, .unset, .unset, .unset, .unset, .unset, .unset, .unset, .unset, .unset, .unset, .unset] [(.long ((a.toInt64 &&& (4294967295 : Int64)) + (b.toInt64 &&& (4294967295 : Int64))))])
  refine Goes.go (fun _ => XS.lstore S.here B.x rfl (B.d at_119) rfl (l' := #[.val (.int w), .val (.int a), .val (.int b), .val (.int c), .val (.int d), .val (.ref b1), .val (.int ((w >>> ((24 : Int32) &&& 31)) &&& (255 : Int32))), .val (.int ((w >>> ((16 : Int32) &&& 31)) &&& (255 : Int32))), .val (.int ((w >>> ((8 : Int32) &&& 31)) &&& (255 : Int32))), .val (.int (w &&& (255 : Int32))), .val (.long ((((own_pk a) + (own_pk b)) ^^^ (own_pk c)) + (own_pk d))), .second, .val (.long ((a.toInt64 &&& (4294967295 : Int64)) + (b.toInt64 &&& (4294967295 : Int64)))), .second, .unset, .unset, .unset, .unset, .unset, .unset, .unset, .unset, .unset]) rfl) ?_
  show Goes _ _ _ _ T (mkF me_ 121 #[.val (.int w), .val (.int a), .val (.int b), .val (.int c), .val (.int d), .val (.ref b1), .val (.int ((w >>> ((24 : Int32) &&& 31)) &&& (255 : Int32))), .val (.int ((w >>> ((16 : Int32) &&& 31)) &&& (255 : Int32))), .val (.int ((w >>> ((8 : Int32) &&& 31)) &&& (255 : Int32))), .val (.int (w &&& (255 : Int32))), .val (.long ((((own_pk a) + (own_pk b)) ^^^ (own_pk c)) + (own_pk d))), .second, .val (.long ((a.toInt64 &&& (4294967295 : Int64)) + (b.toInt64 &&& (4294967295 : Int64)))), .second, .unset, .unset, .unset, .unset, .unset, .unset, .unset, .unset, .unset] [])
  refine Goes.go (fun _ => XS.lload S.here B.x rfl (B.d at_121) rfl) ?_
  show Goes _ _ _ _ T (mkF me_ 123 #[.val (.int w), .val (.int a), .val (.int b), .val (.int c), .val (.int d), .val (.ref b1), .val (.int ((w >>> ((24 : Int32) &&& 31)) &&& (255 : Int32))), .val (.int ((w >>> ((16 : Int32) &&& 31)) &&& (255 : Int32))), .val (.int ((w >>> ((8 : Int32) &&& 31)) &&& (255 : Int32))), .val (.int (w &&& (255 : Int32))), .val (.long ((((own_pk a) + (own_pk b)) ^^^ (own_pk c)) + (own_pk d))), .second, .val (.long ((a.toInt64 &&& (4294967295 : Int64)) + (b.toInt64 &&& (4294967295 : Int64)))), .second, .unset, .unset, .unset, .unset, .unset, .unset, .unset, .unset, .unset] [(.long ((a.toInt64 &&& (4294967295 : Int64)) + (b.toInt64 &&& (4294967295 : Int64))))])
  refine Goes.ldcL S B (w5 hw) at_123 ?_
  show Goes _ _ _ _ T (mkF me_ 126 #[.val (.int w), .val (.int a), .val (.int b), .val (.int c), .val (.int d), .val (.ref b1), .val (.int ((w >>> ((24 : Int32) &&& 31)) &&& (255 : Int32))), .val (.int ((w >>> ((16 : Int32) &&& 31)) &&& (255 : Int32))), .val (.int ((w >>> ((8 : Int32) &&& 31)) &&& (255 : Int32))), .val (.int (w &&& (255 : Int32))), .val (.long ((((own_pk a) + (own_pk b)) ^^^ (own_pk c)) + (own_pk d))), .second, .val (.long ((a.toInt64 &&& (4294967295 : Int64)) + (b.toInt64 &&& (4294967295 : Int64)))), .second, .unset, .unset, .unset, .unset, .unset, .unset, .unset, .unset, .unset] [(.long (4294967295 : Int64)), (.long ((a.toInt64 &&& (4294967295 : Int64)) + (b.toInt64 &&& (4294967295 : Int64))))])
  refine Goes.go (fun _ => XS.land S.here B.x rfl (B.d at_126) rfl) ?_
  show Goes _ _ _ _ T (mkF me_ 127 #[.val (.int w), .val (.int a), .val (.int b), .val (.int c), .val (.int d), .val (.ref b1), .val (.int ((w >>> ((24 : Int32) &&& 31)) &&& (255 : Int32))), .val (.int ((w >>> ((16 : Int32) &&& 31)) &&& (255 : Int32))), .val (.int ((w >>> ((8 : Int32) &&& 31)) &&& (255 : Int32))), .val (.int (w &&& (255 : Int32))), .val (.long ((((own_pk a) + (own_pk b)) ^^^ (own_pk c)) + (own_pk d))), .second, .val (.long ((a.toInt64 &&& (4294967295 : Int64)) + (b.toInt64 &&& (4294967295 : Int64)))), .second, .unset, .unset, .unset, .unset, .unset, .unset, .unset, .unset, .unset] [(.long (((a.toInt64 &&& (4294967295 : Int64)) + (b.toInt64 &&& (4294967295 : Int64))) &&& (4294967295 : Int64)))])
  refine Goes.go (fun _ => XS.iloadN S.here B.x rfl (B.d at_127) rfl) ?_
  show Goes _ _ _ _ T (mkF me_ 128 #[.val (.int w), .val (.int a), .val (.int b), .val (.int c), .val (.int d), .val (.ref b1), .val (.int ((w >>> ((24 : Int32) &&& 31)) &&& (255 : Int32))), .val (.int ((w >>> ((16 : Int32) &&& 31)) &&& (255 : Int32))), .val (.int ((w >>> ((8 : Int32) &&& 31)) &&& (255 : Int32))), .val (.int (w &&& (255 : Int32))), .val (.long ((((own_pk a) + (own_pk b)) ^^^ (own_pk c)) + (own_pk d))), .second, .val (.long ((a.toInt64 &&& (4294967295 : Int64)) + (b.toInt64 &&& (4294967295 : Int64)))), .second, .unset, .unset, .unset, .unset, .unset, .unset, .unset, .unset, .unset] [(.int c), (.long (((a.toInt64 &&& (4294967295 : Int64)) + (b.toInt64 &&& (4294967295 : Int64))) &&& (4294967295 : Int64)))])
  refine Goes.go (fun _ => XS.i2l S.here B.x rfl (B.d at_128) rfl) ?_
  show Goes _ _ _ _ T (mkF me_ 129 #[.val (.int w), .val (.int a), .val (.int b), .val (.int c), .val (.int d), .val (.ref b1), .val (.int ((w >>> ((24 : Int32) &&& 31)) &&& (255 : Int32))), .val (.int ((w >>> ((16 : Int32) &&& 31)) &&& (255 : Int32))), .val (.int ((w >>> ((8 : Int32) &&& 31)) &&& (255 : Int32))), .val (.int (w &&& (255 : Int32))), .val (.long ((((own_pk a) + (own_pk b)) ^^^ (own_pk c)) + (own_pk d))), .second, .val (.long ((a.toInt64 &&& (4294967295 : Int64)) + (b.toInt64 &&& (4294967295 : Int64)))), .second, .unset, .unset, .unset, .unset, .unset, .unset, .unset, .unset, .unset] [(.long c.toInt64), (.long (((a.toInt64 &&& (4294967295 : Int64)) + (b.toInt64 &&& (4294967295 : Int64))) &&& (4294967295 : Int64)))])
  refine Goes.ldcL S B (w5 hw) at_129 ?_
  show Goes _ _ _ _ T (mkF me_ 132 #[.val (.int w), .val (.int a), .val (.int b), .val (.int c), .val (.int d), .val (.ref b1), .val (.int ((w >>> ((24 : Int32) &&& 31)) &&& (255 : Int32))), .val (.int ((w >>> ((16 : Int32) &&& 31)) &&& (255 : Int32))), .val (.int ((w >>> ((8 : Int32) &&& 31)) &&& (255 : Int32))), .val (.int (w &&& (255 : Int32))), .val (.long ((((own_pk a) + (own_pk b)) ^^^ (own_pk c)) + (own_pk d))), .second, .val (.long ((a.toInt64 &&& (4294967295 : Int64)) + (b.toInt64 &&& (4294967295 : Int64)))), .second, .unset, .unset, .unset, .unset, .unset, .unset, .unset, .unset, .unset] [(.long (4294967295 : Int64)), (.long c.toInt64), (.long (((a.toInt64 &&& (4294967295 : Int64)) + (b.toInt64 &&& (4294967295 : Int64))) &&& (4294967295 : Int64)))])
  refine Goes.go (fun _ => XS.land S.here B.x rfl (B.d at_132) rfl) ?_
  show Goes _ _ _ _ T (mkF me_ 133 #[.val (.int w), .val (.int a), .val (.int b), .val (.int c), .val (.int d), .val (.ref b1), .val (.int ((w >>> ((24 : Int32) &&& 31)) &&& (255 : Int32))), .val (.int ((w >>> ((16 : Int32) &&& 31)) &&& (255 : Int32))), .val (.int ((w >>> ((8 : Int32) &&& 31)) &&& (255 : Int32))), .val (.int (w &&& (255 : Int32))), .val (.long ((((own_pk a) + (own_pk b)) ^^^ (own_pk c)) + (own_pk d))), .second, .val (.long ((a.toInt64 &&& (4294967295 : Int64)) + (b.toInt64 &&& (4294967295 : Int64)))), .second, .unset, .unset, .unset, .unset, .unset, .unset, .unset, .unset, .unset] [(.long (c.toInt64 &&& (4294967295 : Int64))), (.long (((a.toInt64 &&& (4294967295 : Int64)) + (b.toInt64 &&& (4294967295 : Int64))) &&& (4294967295 : Int64)))])
  refine Goes.go (fun _ => XS.lxor S.here B.x rfl (B.d at_133) rfl) ?_
  show Goes _ _ _ _ T (mkF me_ 134 #[.val (.int w), .val (.int a), .val (.int b), .val (.int c), .val (.int d), .val (.ref b1), .val (.int ((w >>> ((24 : Int32) &&& 31)) &&& (255 : Int32))), .val (.int ((w >>> ((16 : Int32) &&& 31)) &&& (255 : Int32))), .val (.int ((w >>> ((8 : Int32) &&& 31)) &&& (255 : Int32))), .val (.int (w &&& (255 : Int32))), .val (.long ((((own_pk a) + (own_pk b)) ^^^ (own_pk c)) + (own_pk d))), .second, .val (.long ((a.toInt64 &&& (4294967295 : Int64)) + (b.toInt64 &&& (4294967295 : Int64)))), .second, .unset, .unset, .unset, .unset, .unset, .unset, .unset, .unset, .unset] [(.long ((((a.toInt64 &&& (4294967295 : Int64)) + (b.toInt64 &&& (4294967295 : Int64))) &&& (4294967295 : Int64)) ^^^ (c.toInt64 &&& (4294967295 : Int64))))])
  refine Goes.go (fun _ => XS.lstore S.here B.x rfl (B.d at_134) rfl (l' := #[.val (.int w), .val (.int a), .val (.int b), .val (.int c), .val (.int d), .val (.ref b1), .val (.int ((w >>> ((24 : Int32) &&& 31)) &&& (255 : Int32))), .val (.int ((w >>> ((16 : Int32) &&& 31)) &&& (255 : Int32))), .val (.int ((w >>> ((8 : Int32) &&& 31)) &&& (255 : Int32))), .val (.int (w &&& (255 : Int32))), .val (.long ((((own_pk a) + (own_pk b)) ^^^ (own_pk c)) + (own_pk d))), .second, .val (.long ((a.toInt64 &&& (4294967295 : Int64)) + (b.toInt64 &&& (4294967295 : Int64)))), .second, .val (.long ((((a.toInt64 &&& (4294967295 : Int64)) + (b.toInt64 &&& (4294967295 : Int64))) &&& (4294967295 : Int64)) ^^^ (c.toInt64 &&& (4294967295 : Int64)))), .second, .unset, .unset, .unset, .unset, .unset, .unset, .unset]) rfl) ?_
  show Goes _ _ _ _ T (mkF me_ 136 #[.val (.int w), .val (.int a), .val (.int b), .val (.int c), .val (.int d), .val (.ref b1), .val (.int ((w >>> ((24 : Int32) &&& 31)) &&& (255 : Int32))), .val (.int ((w >>> ((16 : Int32) &&& 31)) &&& (255 : Int32))), .val (.int ((w >>> ((8 : Int32) &&& 31)) &&& (255 : Int32))), .val (.int (w &&& (255 : Int32))), .val (.long ((((own_pk a) + (own_pk b)) ^^^ (own_pk c)) + (own_pk d))), .second, .val (.long ((a.toInt64 &&& (4294967295 : Int64)) + (b.toInt64 &&& (4294967295 : Int64)))), .second, .val (.long ((((a.toInt64 &&& (4294967295 : Int64)) + (b.toInt64 &&& (4294967295 : Int64))) &&& (4294967295 : Int64)) ^^^ (c.toInt64 &&& (4294967295 : Int64)))), .second, .unset, .unset, .unset, .unset, .unset, .unset, .unset] [])
  refine Goes.go (fun _ => XS.lload S.here B.x rfl (B.d at_136) rfl) ?_
  show Goes _ _ _ _ T (mkF me_ 138 #[.val (.int w), .val (.int a), .val (.int b), .val (.int c), .val (.int d), .val (.ref b1), .val (.int ((w >>> ((24 : Int32) &&& 31)) &&& (255 : Int32))), .val (.int ((w >>> ((16 : Int32) &&& 31)) &&& (255 : Int32))), .val (.int ((w >>> ((8 : Int32) &&& 31)) &&& (255 : Int32))), .val (.int (w &&& (255 : Int32))), .val (.long ((((own_pk a) + (own_pk b)) ^^^ (own_pk c)) + (own_pk d))), .second, .val (.long ((a.toInt64 &&& (4294967295 : Int64)) + (b.toInt64 &&& (4294967295 : Int64)))), .second, .val (.long ((((a.toInt64 &&& (4294967295 : Int64)) + (b.toInt64 &&& (4294967295 : Int64))) &&& (4294967295 : Int64)) ^^^ (c.toInt64 &&& (4294967295 : Int64)))), .second, .unset, .unset, .unset, .unset, .unset, .unset, .unset] [(.long ((((a.toInt64 &&& (4294967295 : Int64)) + (b.toInt64 &&& (4294967295 : Int64))) &&& (4294967295 : Int64)) ^^^ (c.toInt64 &&& (4294967295 : Int64))))])
  refine Goes.go (fun _ => XS.iload S.here B.x rfl (B.d at_138) rfl) ?_
  show Goes _ _ _ _ T (mkF me_ 140 #[.val (.int w), .val (.int a), .val (.int b), .val (.int c), .val (.int d), .val (.ref b1), .val (.int ((w >>> ((24 : Int32) &&& 31)) &&& (255 : Int32))), .val (.int ((w >>> ((16 : Int32) &&& 31)) &&& (255 : Int32))), .val (.int ((w >>> ((8 : Int32) &&& 31)) &&& (255 : Int32))), .val (.int (w &&& (255 : Int32))), .val (.long ((((own_pk a) + (own_pk b)) ^^^ (own_pk c)) + (own_pk d))), .second, .val (.long ((a.toInt64 &&& (4294967295 : Int64)) + (b.toInt64 &&& (4294967295 : Int64)))), .second, .val (.long ((((a.toInt64 &&& (4294967295 : Int64)) + (b.toInt64 &&& (4294967295 : Int64))) &&& (4294967295 : Int64)) ^^^ (c.toInt64 &&& (4294967295 : Int64)))), .second, .unset, .unset, .unset, .unset, .unset, .unset, .unset] [(.int d), (.long ((((a.toInt64 &&& (4294967295 : Int64)) + (b.toInt64 &&& (4294967295 : Int64))) &&& (4294967295 : Int64)) ^^^ (c.toInt64 &&& (4294967295 : Int64))))])
  refine Goes.go (fun _ => XS.i2l S.here B.x rfl (B.d at_140) rfl) ?_
  show Goes _ _ _ _ T (mkF me_ 141 #[.val (.int w), .val (.int a), .val (.int b), .val (.int c), .val (.int d), .val (.ref b1), .val (.int ((w >>> ((24 : Int32) &&& 31)) &&& (255 : Int32))), .val (.int ((w >>> ((16 : Int32) &&& 31)) &&& (255 : Int32))), .val (.int ((w >>> ((8 : Int32) &&& 31)) &&& (255 : Int32))), .val (.int (w &&& (255 : Int32))), .val (.long ((((own_pk a) + (own_pk b)) ^^^ (own_pk c)) + (own_pk d))), .second, .val (.long ((a.toInt64 &&& (4294967295 : Int64)) + (b.toInt64 &&& (4294967295 : Int64)))), .second, .val (.long ((((a.toInt64 &&& (4294967295 : Int64)) + (b.toInt64 &&& (4294967295 : Int64))) &&& (4294967295 : Int64)) ^^^ (c.toInt64 &&& (4294967295 : Int64)))), .second, .unset, .unset, .unset, .unset, .unset, .unset, .unset] [(.long d.toInt64), (.long ((((a.toInt64 &&& (4294967295 : Int64)) + (b.toInt64 &&& (4294967295 : Int64))) &&& (4294967295 : Int64)) ^^^ (c.toInt64 &&& (4294967295 : Int64))))])
  refine Goes.ldcL S B (w5 hw) at_141 ?_
  show Goes _ _ _ _ T (mkF me_ 144 #[.val (.int w), .val (.int a), .val (.int b), .val (.int c), .val (.int d), .val (.ref b1), .val (.int ((w >>> ((24 : Int32) &&& 31)) &&& (255 : Int32))), .val (.int ((w >>> ((16 : Int32) &&& 31)) &&& (255 : Int32))), .val (.int ((w >>> ((8 : Int32) &&& 31)) &&& (255 : Int32))), .val (.int (w &&& (255 : Int32))), .val (.long ((((own_pk a) + (own_pk b)) ^^^ (own_pk c)) + (own_pk d))), .second, .val (.long ((a.toInt64 &&& (4294967295 : Int64)) + (b.toInt64 &&& (4294967295 : Int64)))), .second, .val (.long ((((a.toInt64 &&& (4294967295 : Int64)) + (b.toInt64 &&& (4294967295 : Int64))) &&& (4294967295 : Int64)) ^^^ (c.toInt64 &&& (4294967295 : Int64)))), .second, .unset, .unset, .unset, .unset, .unset, .unset, .unset] [(.long (4294967295 : Int64)), (.long d.toInt64), (.long ((((a.toInt64 &&& (4294967295 : Int64)) + (b.toInt64 &&& (4294967295 : Int64))) &&& (4294967295 : Int64)) ^^^ (c.toInt64 &&& (4294967295 : Int64))))])
  refine Goes.go (fun _ => XS.land S.here B.x rfl (B.d at_144) rfl) ?_
  show Goes _ _ _ _ T (mkF me_ 145 #[.val (.int w), .val (.int a), .val (.int b), .val (.int c), .val (.int d), .val (.ref b1), .val (.int ((w >>> ((24 : Int32) &&& 31)) &&& (255 : Int32))), .val (.int ((w >>> ((16 : Int32) &&& 31)) &&& (255 : Int32))), .val (.int ((w >>> ((8 : Int32) &&& 31)) &&& (255 : Int32))), .val (.int (w &&& (255 : Int32))), .val (.long ((((own_pk a) + (own_pk b)) ^^^ (own_pk c)) + (own_pk d))), .second, .val (.long ((a.toInt64 &&& (4294967295 : Int64)) + (b.toInt64 &&& (4294967295 : Int64)))), .second, .val (.long ((((a.toInt64 &&& (4294967295 : Int64)) + (b.toInt64 &&& (4294967295 : Int64))) &&& (4294967295 : Int64)) ^^^ (c.toInt64 &&& (4294967295 : Int64)))), .second, .unset, .unset, .unset, .unset, .unset, .unset, .unset] [(.long (d.toInt64 &&& (4294967295 : Int64))), (.long ((((a.toInt64 &&& (4294967295 : Int64)) + (b.toInt64 &&& (4294967295 : Int64))) &&& (4294967295 : Int64)) ^^^ (c.toInt64 &&& (4294967295 : Int64))))])
  refine Goes.go (fun _ => XS.ladd S.here B.x rfl (B.d at_145) rfl) ?_
  show Goes _ _ _ _ T (mkF me_ 146 #[.val (.int w), .val (.int a), .val (.int b), .val (.int c), .val (.int d), .val (.ref b1), .val (.int ((w >>> ((24 : Int32) &&& 31)) &&& (255 : Int32))), .val (.int ((w >>> ((16 : Int32) &&& 31)) &&& (255 : Int32))), .val (.int ((w >>> ((8 : Int32) &&& 31)) &&& (255 : Int32))), .val (.int (w &&& (255 : Int32))), .val (.long ((((own_pk a) + (own_pk b)) ^^^ (own_pk c)) + (own_pk d))), .second, .val (.long ((a.toInt64 &&& (4294967295 : Int64)) + (b.toInt64 &&& (4294967295 : Int64)))), .second, .val (.long ((((a.toInt64 &&& (4294967295 : Int64)) + (b.toInt64 &&& (4294967295 : Int64))) &&& (4294967295 : Int64)) ^^^ (c.toInt64 &&& (4294967295 : Int64)))), .second, .unset, .unset, .unset, .unset, .unset, .unset, .unset] [(.long (((((a.toInt64 &&& (4294967295 : Int64)) + (b.toInt64 &&& (4294967295 : Int64))) &&& (4294967295 : Int64)) ^^^ (c.toInt64 &&& (4294967295 : Int64))) + (d.toInt64 &&& (4294967295 : Int64))))])
  refine Goes.go (fun _ => XS.lstore S.here B.x rfl (B.d at_146) rfl (l' := #[.val (.int w), .val (.int a), .val (.int b), .val (.int c), .val (.int d), .val (.ref b1), .val (.int ((w >>> ((24 : Int32) &&& 31)) &&& (255 : Int32))), .val (.int ((w >>> ((16 : Int32) &&& 31)) &&& (255 : Int32))), .val (.int ((w >>> ((8 : Int32) &&& 31)) &&& (255 : Int32))), .val (.int (w &&& (255 : Int32))), .val (.long ((((own_pk a) + (own_pk b)) ^^^ (own_pk c)) + (own_pk d))), .second, .val (.long ((a.toInt64 &&& (4294967295 : Int64)) + (b.toInt64 &&& (4294967295 : Int64)))), .second, .val (.long ((((a.toInt64 &&& (4294967295 : Int64)) + (b.toInt64 &&& (4294967295 : Int64))) &&& (4294967295 : Int64)) ^^^ (c.toInt64 &&& (4294967295 : Int64)))), .second, .val (.long (((((a.toInt64 &&& (4294967295 : Int64)) + (b.toInt64 &&& (4294967295 : Int64))) &&& (4294967295 : Int64)) ^^^ (c.toInt64 &&& (4294967295 : Int64))) + (d.toInt64 &&& (4294967295 : Int64)))), .second, .unset, .unset, .unset, .unset, .unset]) rfl) ?_
  show Goes _ _ _ _ T (mkF me_ 148 #[.val (.int w), .val (.int a), .val (.int b), .val (.int c), .val (.int d), .val (.ref b1), .val (.int ((w >>> ((24 : Int32) &&& 31)) &&& (255 : Int32))), .val (.int ((w >>> ((16 : Int32) &&& 31)) &&& (255 : Int32))), .val (.int ((w >>> ((8 : Int32) &&& 31)) &&& (255 : Int32))), .val (.int (w &&& (255 : Int32))), .val (.long ((((own_pk a) + (own_pk b)) ^^^ (own_pk c)) + (own_pk d))), .second, .val (.long ((a.toInt64 &&& (4294967295 : Int64)) + (b.toInt64 &&& (4294967295 : Int64)))), .second, .val (.long ((((a.toInt64 &&& (4294967295 : Int64)) + (b.toInt64 &&& (4294967295 : Int64))) &&& (4294967295 : Int64)) ^^^ (c.toInt64 &&& (4294967295 : Int64)))), .second, .val (.long (((((a.toInt64 &&& (4294967295 : Int64)) + (b.toInt64 &&& (4294967295 : Int64))) &&& (4294967295 : Int64)) ^^^ (c.toInt64 &&& (4294967295 : Int64))) + (d.toInt64 &&& (4294967295 : Int64)))), .second, .unset, .unset, .unset, .unset, .unset] [])
  refine Goes.go (fun _ => XS.lload S.here B.x rfl (B.d at_148) rfl) ?_
  show Goes _ _ _ _ T (mkF me_ 150 #[.val (.int w), .val (.int a), .val (.int b), .val (.int c), .val (.int d), .val (.ref b1), .val (.int ((w >>> ((24 : Int32) &&& 31)) &&& (255 : Int32))), .val (.int ((w >>> ((16 : Int32) &&& 31)) &&& (255 : Int32))), .val (.int ((w >>> ((8 : Int32) &&& 31)) &&& (255 : Int32))), .val (.int (w &&& (255 : Int32))), .val (.long ((((own_pk a) + (own_pk b)) ^^^ (own_pk c)) + (own_pk d))), .second, .val (.long ((a.toInt64 &&& (4294967295 : Int64)) + (b.toInt64 &&& (4294967295 : Int64)))), .second, .val (.long ((((a.toInt64 &&& (4294967295 : Int64)) + (b.toInt64 &&& (4294967295 : Int64))) &&& (4294967295 : Int64)) ^^^ (c.toInt64 &&& (4294967295 : Int64)))), .second, .val (.long (((((a.toInt64 &&& (4294967295 : Int64)) + (b.toInt64 &&& (4294967295 : Int64))) &&& (4294967295 : Int64)) ^^^ (c.toInt64 &&& (4294967295 : Int64))) + (d.toInt64 &&& (4294967295 : Int64)))), .second, .unset, .unset, .unset, .unset, .unset] [(.long ((a.toInt64 &&& (4294967295 : Int64)) + (b.toInt64 &&& (4294967295 : Int64))))])
  refine Goes.go (fun _ => XS.bipush S.here B.x rfl (B.d at_150)) ?_
  show Goes _ _ _ _ T (mkF me_ 152 #[.val (.int w), .val (.int a), .val (.int b), .val (.int c), .val (.int d), .val (.ref b1), .val (.int ((w >>> ((24 : Int32) &&& 31)) &&& (255 : Int32))), .val (.int ((w >>> ((16 : Int32) &&& 31)) &&& (255 : Int32))), .val (.int ((w >>> ((8 : Int32) &&& 31)) &&& (255 : Int32))), .val (.int (w &&& (255 : Int32))), .val (.long ((((own_pk a) + (own_pk b)) ^^^ (own_pk c)) + (own_pk d))), .second, .val (.long ((a.toInt64 &&& (4294967295 : Int64)) + (b.toInt64 &&& (4294967295 : Int64)))), .second, .val (.long ((((a.toInt64 &&& (4294967295 : Int64)) + (b.toInt64 &&& (4294967295 : Int64))) &&& (4294967295 : Int64)) ^^^ (c.toInt64 &&& (4294967295 : Int64)))), .second, .val (.long (((((a.toInt64 &&& (4294967295 : Int64)) + (b.toInt64 &&& (4294967295 : Int64))) &&& (4294967295 : Int64)) ^^^ (c.toInt64 &&& (4294967295 : Int64))) + (d.toInt64 &&& (4294967295 : Int64)))), .second, .unset, .unset, .unset, .unset, .unset] [(.int (32 : Int32)), (.long ((a.toInt64 &&& (4294967295 : Int64)) + (b.toInt64 &&& (4294967295 : Int64))))])
  refine Goes.go (fun _ => XS.lushr S.here B.x rfl (B.d at_152) rfl) ?_
  show Goes _ _ _ _ T (mkF me_ 153 #[.val (.int w), .val (.int a), .val (.int b), .val (.int c), .val (.int d), .val (.ref b1), .val (.int ((w >>> ((24 : Int32) &&& 31)) &&& (255 : Int32))), .val (.int ((w >>> ((16 : Int32) &&& 31)) &&& (255 : Int32))), .val (.int ((w >>> ((8 : Int32) &&& 31)) &&& (255 : Int32))), .val (.int (w &&& (255 : Int32))), .val (.long ((((own_pk a) + (own_pk b)) ^^^ (own_pk c)) + (own_pk d))), .second, .val (.long ((a.toInt64 &&& (4294967295 : Int64)) + (b.toInt64 &&& (4294967295 : Int64)))), .second, .val (.long ((((a.toInt64 &&& (4294967295 : Int64)) + (b.toInt64 &&& (4294967295 : Int64))) &&& (4294967295 : Int64)) ^^^ (c.toInt64 &&& (4294967295 : Int64)))), .second, .val (.long (((((a.toInt64 &&& (4294967295 : Int64)) + (b.toInt64 &&& (4294967295 : Int64))) &&& (4294967295 : Int64)) ^^^ (c.toInt64 &&& (4294967295 : Int64))) + (d.toInt64 &&& (4294967295 : Int64)))), .second, .unset, .unset, .unset, .unset, .unset] [(.long ((((a.toInt64 &&& (4294967295 : Int64)) + (b.toInt64 &&& (4294967295 : Int64))).toUInt64 >>> ((32 : Int32) &&& 0x3f).toInt64.toUInt64).toInt64))])
  refine Goes.go (fun _ => XS.lload S.here B.x rfl (B.d at_153) rfl) ?_
  show Goes _ _ _ _ T (mkF me_ 155 #[.val (.int w), .val (.int a), .val (.int b), .val (.int c), .val (.int d), .val (.ref b1), .val (.int ((w >>> ((24 : Int32) &&& 31)) &&& (255 : Int32))), .val (.int ((w >>> ((16 : Int32) &&& 31)) &&& (255 : Int32))), .val (.int ((w >>> ((8 : Int32) &&& 31)) &&& (255 : Int32))), .val (.int (w &&& (255 : Int32))), .val (.long ((((own_pk a) + (own_pk b)) ^^^ (own_pk c)) + (own_pk d))), .second, .val (.long ((a.toInt64 &&& (4294967295 : Int64)) + (b.toInt64 &&& (4294967295 : Int64)))), .second, .val (.long ((((a.toInt64 &&& (4294967295 : Int64)) + (b.toInt64 &&& (4294967295 : Int64))) &&& (4294967295 : Int64)) ^^^ (c.toInt64 &&& (4294967295 : Int64)))), .second, .val (.long (((((a.toInt64 &&& (4294967295 : Int64)) + (b.toInt64 &&& (4294967295 : Int64))) &&& (4294967295 : Int64)) ^^^ (c.toInt64 &&& (4294967295 : Int64))) + (d.toInt64 &&& (4294967295 : Int64)))), .second, .unset, .unset, .unset, .unset, .unset] [(.long (((((a.toInt64 &&& (4294967295 : Int64)) + (b.toInt64 &&& (4294967295 : Int64))) &&& (4294967295 : Int64)) ^^^ (c.toInt64 &&& (4294967295 : Int64))) + (d.toInt64 &&& (4294967295 : Int64)))), (.long ((((a.toInt64 &&& (4294967295 : Int64)) + (b.toInt64 &&& (4294967295 : Int64))).toUInt64 >>> ((32 : Int32) &&& 0x3f).toInt64.toUInt64).toInt64))])
  refine Goes.go (fun _ => XS.bipush S.here B.x rfl (B.d at_155)) ?_
  show Goes _ _ _ _ T (mkF me_ 157 #[.val (.int w), .val (.int a), .val (.int b), .val (.int c), .val (.int d), .val (.ref b1), .val (.int ((w >>> ((24 : Int32) &&& 31)) &&& (255 : Int32))), .val (.int ((w >>> ((16 : Int32) &&& 31)) &&& (255 : Int32))), .val (.int ((w >>> ((8 : Int32) &&& 31)) &&& (255 : Int32))), .val (.int (w &&& (255 : Int32))), .val (.long ((((own_pk a) + (own_pk b)) ^^^ (own_pk c)) + (own_pk d))), .second, .val (.long ((a.toInt64 &&& (4294967295 : Int64)) + (b.toInt64 &&& (4294967295 : Int64)))), .second, .val (.long ((((a.toInt64 &&& (4294967295 : Int64)) + (b.toInt64 &&& (4294967295 : Int64))) &&& (4294967295 : Int64)) ^^^ (c.toInt64 &&& (4294967295 : Int64)))), .second, .val (.long (((((a.toInt64 &&& (4294967295 : Int64)) + (b.toInt64 &&& (4294967295 : Int64))) &&& (4294967295 : Int64)) ^^^ (c.toInt64 &&& (4294967295 : Int64))) + (d.toInt64 &&& (4294967295 : Int64)))), .second, .unset, .unset, .unset, .unset, .unset] [(.int (32 : Int32)), (.long (((((a.toInt64 &&& (4294967295 : Int64)) + (b.toInt64 &&& (4294967295 : Int64))) &&& (4294967295 : Int64)) ^^^ (c.toInt64 &&& (4294967295 : Int64))) + (d.toInt64 &&& (4294967295 : Int64)))), (.long ((((a.toInt64 &&& (4294967295 : Int64)) + (b.toInt64 &&& (4294967295 : Int64))).toUInt64 >>> ((32 : Int32) &&& 0x3f).toInt64.toUInt64).toInt64))])
  refine Goes.go (fun _ => XS.lushr S.here B.x rfl (B.d at_157) rfl) ?_
  show Goes _ _ _ _ T (mkF me_ 158 #[.val (.int w), .val (.int a), .val (.int b), .val (.int c), .val (.int d), .val (.ref b1), .val (.int ((w >>> ((24 : Int32) &&& 31)) &&& (255 : Int32))), .val (.int ((w >>> ((16 : Int32) &&& 31)) &&& (255 : Int32))), .val (.int ((w >>> ((8 : Int32) &&& 31)) &&& (255 : Int32))), .val (.int (w &&& (255 : Int32))), .val (.long ((((own_pk a) + (own_pk b)) ^^^ (own_pk c)) + (own_pk d))), .second, .val (.long ((a.toInt64 &&& (4294967295 : Int64)) + (b.toInt64 &&& (4294967295 : Int64)))), .second, .val (.long ((((a.toInt64 &&& (4294967295 : Int64)) + (b.toInt64 &&& (4294967295 : Int64))) &&& (4294967295 : Int64)) ^^^ (c.toInt64 &&& (4294967295 : Int64)))), .second, .val (.long (((((a.toInt64 &&& (4294967295 : Int64)) + (b.toInt64 &&& (4294967295 : Int64))) &&& (4294967295 : Int64)) ^^^ (c.toInt64 &&& (4294967295 : Int64))) + (d.toInt64 &&& (4294967295 : Int64)))), .second, .unset, .unset, .unset, .unset, .unset] [(.long (((((((a.toInt64 &&& (4294967295 : Int64)) + (b.toInt64 &&& (4294967295 : Int64))) &&& (4294967295 : Int64)) ^^^ (c.toInt64 &&& (4294967295 : Int64))) + (d.toInt64 &&& (4294967295 : Int64))).toUInt64 >>> ((32 : Int32) &&& 0x3f).toInt64.toUInt64).toInt64)), (.long ((((a.toInt64 &&& (4294967295 : Int64)) + (b.toInt64 &&& (4294967295 : Int64))).toUInt64 >>> ((32 : Int32) &&& 0x3f).toInt64.toUInt64).toInt64))])
  refine Goes.go (fun _ => XS.ladd S.here B.x rfl (B.d at_158) rfl) ?_
  show Goes _ _ _ _ T (mkF me_ 159 #[.val (.int w), .val (.int a), .val (.int b), .val (.int c), .val (.int d), .val (.ref b1), .val (.int ((w >>> ((24 : Int32) &&& 31)) &&& (255 : Int32))), .val (.int ((w >>> ((16 : Int32) &&& 31)) &&& (255 : Int32))), .val (.int ((w >>> ((8 : Int32) &&& 31)) &&& (255 : Int32))), .val (.int (w &&& (255 : Int32))), .val (.long ((((own_pk a) + (own_pk b)) ^^^ (own_pk c)) + (own_pk d))), .second, .val (.long ((a.toInt64 &&& (4294967295 : Int64)) + (b.toInt64 &&& (4294967295 : Int64)))), .second, .val (.long ((((a.toInt64 &&& (4294967295 : Int64)) + (b.toInt64 &&& (4294967295 : Int64))) &&& (4294967295 : Int64)) ^^^ (c.toInt64 &&& (4294967295 : Int64)))), .second, .val (.long (((((a.toInt64 &&& (4294967295 : Int64)) + (b.toInt64 &&& (4294967295 : Int64))) &&& (4294967295 : Int64)) ^^^ (c.toInt64 &&& (4294967295 : Int64))) + (d.toInt64 &&& (4294967295 : Int64)))), .second, .unset, .unset, .unset, .unset, .unset] [(.long (((((a.toInt64 &&& (4294967295 : Int64)) + (b.toInt64 &&& (4294967295 : Int64))).toUInt64 >>> ((32 : Int32) &&& 0x3f).toInt64.toUInt64).toInt64) + (((((((a.toInt64 &&& (4294967295 : Int64)) + (b.toInt64 &&& (4294967295 : Int64))) &&& (4294967295 : Int64)) ^^^ (c.toInt64 &&& (4294967295 : Int64))) + (d.toInt64 &&& (4294967295 : Int64))).toUInt64 >>> ((32 : Int32) &&& 0x3f).toInt64.toUInt64).toInt64)))])
  refine Goes.go (fun _ => XS.lstore S.here B.x rfl (B.d at_159) rfl (l' := #[.val (.int w), .val (.int a), .val (.int b), .val (.int c), .val (.int d), .val (.ref b1), .val (.int ((w >>> ((24 : Int32) &&& 31)) &&& (255 : Int32))), .val (.int ((w >>> ((16 : Int32) &&& 31)) &&& (255 : Int32))), .val (.int ((w >>> ((8 : Int32) &&& 31)) &&& (255 : Int32))), .val (.int (w &&& (255 : Int32))), .val (.long ((((own_pk a) + (own_pk b)) ^^^ (own_pk c)) + (own_pk d))), .second, .val (.long ((a.toInt64 &&& (4294967295 : Int64)) + (b.toInt64 &&& (4294967295 : Int64)))), .second, .val (.long ((((a.toInt64 &&& (4294967295 : Int64)) + (b.toInt64 &&& (4294967295 : Int64))) &&& (4294967295 : Int64)) ^^^ (c.toInt64 &&& (4294967295 : Int64)))), .second, .val (.long (((((a.toInt64 &&& (4294967295 : Int64)) + (b.toInt64 &&& (4294967295 : Int64))) &&& (4294967295 : Int64)) ^^^ (c.toInt64 &&& (4294967295 : Int64))) + (d.toInt64 &&& (4294967295 : Int64)))), .second, .val (.long (((((a.toInt64 &&& (4294967295 : Int64)) + (b.toInt64 &&& (4294967295 : Int64))).toUInt64 >>> ((32 : Int32) &&& 0x3f).toInt64.toUInt64).toInt64) + (((((((a.toInt64 &&& (4294967295 : Int64)) + (b.toInt64 &&& (4294967295 : Int64))) &&& (4294967295 : Int64)) ^^^ (c.toInt64 &&& (4294967295 : Int64))) + (d.toInt64 &&& (4294967295 : Int64))).toUInt64 >>> ((32 : Int32) &&& 0x3f).toInt64.toUInt64).toInt64))), .second, .unset, .unset, .unset]) rfl) ?_
  show Goes _ _ _ _ T (mkF me_ 161 #[.val (.int w), .val (.int a), .val (.int b), .val (.int c), .val (.int d), .val (.ref b1), .val (.int ((w >>> ((24 : Int32) &&& 31)) &&& (255 : Int32))), .val (.int ((w >>> ((16 : Int32) &&& 31)) &&& (255 : Int32))), .val (.int ((w >>> ((8 : Int32) &&& 31)) &&& (255 : Int32))), .val (.int (w &&& (255 : Int32))), .val (.long ((((own_pk a) + (own_pk b)) ^^^ (own_pk c)) + (own_pk d))), .second, .val (.long ((a.toInt64 &&& (4294967295 : Int64)) + (b.toInt64 &&& (4294967295 : Int64)))), .second, .val (.long ((((a.toInt64 &&& (4294967295 : Int64)) + (b.toInt64 &&& (4294967295 : Int64))) &&& (4294967295 : Int64)) ^^^ (c.toInt64 &&& (4294967295 : Int64)))), .second, .val (.long (((((a.toInt64 &&& (4294967295 : Int64)) + (b.toInt64 &&& (4294967295 : Int64))) &&& (4294967295 : Int64)) ^^^ (c.toInt64 &&& (4294967295 : Int64))) + (d.toInt64 &&& (4294967295 : Int64)))), .second, .val (.long (((((a.toInt64 &&& (4294967295 : Int64)) + (b.toInt64 &&& (4294967295 : Int64))).toUInt64 >>> ((32 : Int32) &&& 0x3f).toInt64.toUInt64).toInt64) + (((((((a.toInt64 &&& (4294967295 : Int64)) + (b.toInt64 &&& (4294967295 : Int64))) &&& (4294967295 : Int64)) ^^^ (c.toInt64 &&& (4294967295 : Int64))) + (d.toInt64 &&& (4294967295 : Int64))).toUInt64 >>> ((32 : Int32) &&& 0x3f).toInt64.toUInt64).toInt64))), .second, .unset, .unset, .unset] [])
  refine Goes.go (fun _ => XS.iloadN S.here B.x rfl (B.d at_161) rfl) ?_
  show Goes _ _ _ _ T (mkF me_ 162 #[.val (.int w), .val (.int a), .val (.int b), .val (.int c), .val (.int d), .val (.ref b1), .val (.int ((w >>> ((24 : Int32) &&& 31)) &&& (255 : Int32))), .val (.int ((w >>> ((16 : Int32) &&& 31)) &&& (255 : Int32))), .val (.int ((w >>> ((8 : Int32) &&& 31)) &&& (255 : Int32))), .val (.int (w &&& (255 : Int32))), .val (.long ((((own_pk a) + (own_pk b)) ^^^ (own_pk c)) + (own_pk d))), .second, .val (.long ((a.toInt64 &&& (4294967295 : Int64)) + (b.toInt64 &&& (4294967295 : Int64)))), .second, .val (.long ((((a.toInt64 &&& (4294967295 : Int64)) + (b.toInt64 &&& (4294967295 : Int64))) &&& (4294967295 : Int64)) ^^^ (c.toInt64 &&& (4294967295 : Int64)))), .second, .val (.long (((((a.toInt64 &&& (4294967295 : Int64)) + (b.toInt64 &&& (4294967295 : Int64))) &&& (4294967295 : Int64)) ^^^ (c.toInt64 &&& (4294967295 : Int64))) + (d.toInt64 &&& (4294967295 : Int64)))), .second, .val (.long (((((a.toInt64 &&& (4294967295 : Int64)) + (b.toInt64 &&& (4294967295 : Int64))).toUInt64 >>> ((32 : Int32) &&& 0x3f).toInt64.toUInt64).toInt64) + (((((((a.toInt64 &&& (4294967295 : Int64)) + (b.toInt64 &&& (4294967295 : Int64))) &&& (4294967295 : Int64)) ^^^ (c.toInt64 &&& (4294967295 : Int64))) + (d.toInt64 &&& (4294967295 : Int64))).toUInt64 >>> ((32 : Int32) &&& 0x3f).toInt64.toUInt64).toInt64))), .second, .unset, .unset, .unset] [(.int a)])
  refine Goes.go (fun _ => XS.iloadN S.here B.x rfl (B.d at_162) rfl) ?_
  show Goes _ _ _ _ T (mkF me_ 163 #[.val (.int w), .val (.int a), .val (.int b), .val (.int c), .val (.int d), .val (.ref b1), .val (.int ((w >>> ((24 : Int32) &&& 31)) &&& (255 : Int32))), .val (.int ((w >>> ((16 : Int32) &&& 31)) &&& (255 : Int32))), .val (.int ((w >>> ((8 : Int32) &&& 31)) &&& (255 : Int32))), .val (.int (w &&& (255 : Int32))), .val (.long ((((own_pk a) + (own_pk b)) ^^^ (own_pk c)) + (own_pk d))), .second, .val (.long ((a.toInt64 &&& (4294967295 : Int64)) + (b.toInt64 &&& (4294967295 : Int64)))), .second, .val (.long ((((a.toInt64 &&& (4294967295 : Int64)) + (b.toInt64 &&& (4294967295 : Int64))) &&& (4294967295 : Int64)) ^^^ (c.toInt64 &&& (4294967295 : Int64)))), .second, .val (.long (((((a.toInt64 &&& (4294967295 : Int64)) + (b.toInt64 &&& (4294967295 : Int64))) &&& (4294967295 : Int64)) ^^^ (c.toInt64 &&& (4294967295 : Int64))) + (d.toInt64 &&& (4294967295 : Int64)))), .second, .val (.long (((((a.toInt64 &&& (4294967295 : Int64)) + (b.toInt64 &&& (4294967295 : Int64))).toUInt64 >>> ((32 : Int32) &&& 0x3f).toInt64.toUInt64).toInt64) + (((((((a.toInt64 &&& (4294967295 : Int64)) + (b.toInt64 &&& (4294967295 : Int64))) &&& (4294967295 : Int64)) ^^^ (c.toInt64 &&& (4294967295 : Int64))) + (d.toInt64 &&& (4294967295 : Int64))).toUInt64 >>> ((32 : Int32) &&& 0x3f).toInt64.toUInt64).toInt64))), .second, .unset, .unset, .unset] [(.int b), (.int a)])
  refine Goes.go (fun _ => XS.iadd S.here B.x rfl (B.d at_163) rfl) ?_
  show Goes _ _ _ _ T (mkF me_ 164 #[.val (.int w), .val (.int a), .val (.int b), .val (.int c), .val (.int d), .val (.ref b1), .val (.int ((w >>> ((24 : Int32) &&& 31)) &&& (255 : Int32))), .val (.int ((w >>> ((16 : Int32) &&& 31)) &&& (255 : Int32))), .val (.int ((w >>> ((8 : Int32) &&& 31)) &&& (255 : Int32))), .val (.int (w &&& (255 : Int32))), .val (.long ((((own_pk a) + (own_pk b)) ^^^ (own_pk c)) + (own_pk d))), .second, .val (.long ((a.toInt64 &&& (4294967295 : Int64)) + (b.toInt64 &&& (4294967295 : Int64)))), .second, .val (.long ((((a.toInt64 &&& (4294967295 : Int64)) + (b.toInt64 &&& (4294967295 : Int64))) &&& (4294967295 : Int64)) ^^^ (c.toInt64 &&& (4294967295 : Int64)))), .second, .val (.long (((((a.toInt64 &&& (4294967295 : Int64)) + (b.toInt64 &&& (4294967295 : Int64))) &&& (4294967295 : Int64)) ^^^ (c.toInt64 &&& (4294967295 : Int64))) + (d.toInt64 &&& (4294967295 : Int64)))), .second, .val (.long (((((a.toInt64 &&& (4294967295 : Int64)) + (b.toInt64 &&& (4294967295 : Int64))).toUInt64 >>> ((32 : Int32) &&& 0x3f).toInt64.toUInt64).toInt64) + (((((((a.toInt64 &&& (4294967295 : Int64)) + (b.toInt64 &&& (4294967295 : Int64))) &&& (4294967295 : Int64)) ^^^ (c.toInt64 &&& (4294967295 : Int64))) + (d.toInt64 &&& (4294967295 : Int64))).toUInt64 >>> ((32 : Int32) &&& 0x3f).toInt64.toUInt64).toInt64))), .second, .unset, .unset, .unset] [(.int (a + b))])
  refine Goes.go (fun _ => XS.iloadN S.here B.x rfl (B.d at_164) rfl) ?_
  show Goes _ _ _ _ T (mkF me_ 165 #[.val (.int w), .val (.int a), .val (.int b), .val (.int c), .val (.int d), .val (.ref b1), .val (.int ((w >>> ((24 : Int32) &&& 31)) &&& (255 : Int32))), .val (.int ((w >>> ((16 : Int32) &&& 31)) &&& (255 : Int32))), .val (.int ((w >>> ((8 : Int32) &&& 31)) &&& (255 : Int32))), .val (.int (w &&& (255 : Int32))), .val (.long ((((own_pk a) + (own_pk b)) ^^^ (own_pk c)) + (own_pk d))), .second, .val (.long ((a.toInt64 &&& (4294967295 : Int64)) + (b.toInt64 &&& (4294967295 : Int64)))), .second, .val (.long ((((a.toInt64 &&& (4294967295 : Int64)) + (b.toInt64 &&& (4294967295 : Int64))) &&& (4294967295 : Int64)) ^^^ (c.toInt64 &&& (4294967295 : Int64)))), .second, .val (.long (((((a.toInt64 &&& (4294967295 : Int64)) + (b.toInt64 &&& (4294967295 : Int64))) &&& (4294967295 : Int64)) ^^^ (c.toInt64 &&& (4294967295 : Int64))) + (d.toInt64 &&& (4294967295 : Int64)))), .second, .val (.long (((((a.toInt64 &&& (4294967295 : Int64)) + (b.toInt64 &&& (4294967295 : Int64))).toUInt64 >>> ((32 : Int32) &&& 0x3f).toInt64.toUInt64).toInt64) + (((((((a.toInt64 &&& (4294967295 : Int64)) + (b.toInt64 &&& (4294967295 : Int64))) &&& (4294967295 : Int64)) ^^^ (c.toInt64 &&& (4294967295 : Int64))) + (d.toInt64 &&& (4294967295 : Int64))).toUInt64 >>> ((32 : Int32) &&& 0x3f).toInt64.toUInt64).toInt64))), .second, .unset, .unset, .unset] [(.int c), (.int (a + b))])
  refine Goes.go (fun _ => XS.ixor S.here B.x rfl (B.d at_165) rfl) ?_
  show Goes _ _ _ _ T (mkF me_ 166 #[.val (.int w), .val (.int a), .val (.int b), .val (.int c), .val (.int d), .val (.ref b1), .val (.int ((w >>> ((24 : Int32) &&& 31)) &&& (255 : Int32))), .val (.int ((w >>> ((16 : Int32) &&& 31)) &&& (255 : Int32))), .val (.int ((w >>> ((8 : Int32) &&& 31)) &&& (255 : Int32))), .val (.int (w &&& (255 : Int32))), .val (.long ((((own_pk a) + (own_pk b)) ^^^ (own_pk c)) + (own_pk d))), .second, .val (.long ((a.toInt64 &&& (4294967295 : Int64)) + (b.toInt64 &&& (4294967295 : Int64)))), .second, .val (.long ((((a.toInt64 &&& (4294967295 : Int64)) + (b.toInt64 &&& (4294967295 : Int64))) &&& (4294967295 : Int64)) ^^^ (c.toInt64 &&& (4294967295 : Int64)))), .second, .val (.long (((((a.toInt64 &&& (4294967295 : Int64)) + (b.toInt64 &&& (4294967295 : Int64))) &&& (4294967295 : Int64)) ^^^ (c.toInt64 &&& (4294967295 : Int64))) + (d.toInt64 &&& (4294967295 : Int64)))), .second, .val (.long (((((a.toInt64 &&& (4294967295 : Int64)) + (b.toInt64 &&& (4294967295 : Int64))).toUInt64 >>> ((32 : Int32) &&& 0x3f).toInt64.toUInt64).toInt64) + (((((((a.toInt64 &&& (4294967295 : Int64)) + (b.toInt64 &&& (4294967295 : Int64))) &&& (4294967295 : Int64)) ^^^ (c.toInt64 &&& (4294967295 : Int64))) + (d.toInt64 &&& (4294967295 : Int64))).toUInt64 >>> ((32 : Int32) &&& 0x3f).toInt64.toUInt64).toInt64))), .second, .unset, .unset, .unset] [(.int ((a + b) ^^^ c))])
  refine Goes.go (fun _ => XS.iload S.here B.x rfl (B.d at_166) rfl) ?_
  show Goes _ _ _ _ T (mkF me_ 168 #[.val (.int w), .val (.int a), .val (.int b), .val (.int c), .val (.int d), .val (.ref b1), .val (.int ((w >>> ((24 : Int32) &&& 31)) &&& (255 : Int32))), .val (.int ((w >>> ((16 : Int32) &&& 31)) &&& (255 : Int32))), .val (.int ((w >>> ((8 : Int32) &&& 31)) &&& (255 : Int32))), .val (.int (w &&& (255 : Int32))), .val (.long ((((own_pk a) + (own_pk b)) ^^^ (own_pk c)) + (own_pk d))), .second, .val (.long ((a.toInt64 &&& (4294967295 : Int64)) + (b.toInt64 &&& (4294967295 : Int64)))), .second, .val (.long ((((a.toInt64 &&& (4294967295 : Int64)) + (b.toInt64 &&& (4294967295 : Int64))) &&& (4294967295 : Int64)) ^^^ (c.toInt64 &&& (4294967295 : Int64)))), .second, .val (.long (((((a.toInt64 &&& (4294967295 : Int64)) + (b.toInt64 &&& (4294967295 : Int64))) &&& (4294967295 : Int64)) ^^^ (c.toInt64 &&& (4294967295 : Int64))) + (d.toInt64 &&& (4294967295 : Int64)))), .second, .val (.long (((((a.toInt64 &&& (4294967295 : Int64)) + (b.toInt64 &&& (4294967295 : Int64))).toUInt64 >>> ((32 : Int32) &&& 0x3f).toInt64.toUInt64).toInt64) + (((((((a.toInt64 &&& (4294967295 : Int64)) + (b.toInt64 &&& (4294967295 : Int64))) &&& (4294967295 : Int64)) ^^^ (c.toInt64 &&& (4294967295 : Int64))) + (d.toInt64 &&& (4294967295 : Int64))).toUInt64 >>> ((32 : Int32) &&& 0x3f).toInt64.toUInt64).toInt64))), .second, .unset, .unset, .unset] [(.int d), (.int ((a + b) ^^^ c))])
  refine Goes.go (fun _ => XS.iadd S.here B.x rfl (B.d at_168) rfl) ?_
  show Goes _ _ _ _ T (mkF me_ 169 #[.val (.int w), .val (.int a), .val (.int b), .val (.int c), .val (.int d), .val (.ref b1), .val (.int ((w >>> ((24 : Int32) &&& 31)) &&& (255 : Int32))), .val (.int ((w >>> ((16 : Int32) &&& 31)) &&& (255 : Int32))), .val (.int ((w >>> ((8 : Int32) &&& 31)) &&& (255 : Int32))), .val (.int (w &&& (255 : Int32))), .val (.long ((((own_pk a) + (own_pk b)) ^^^ (own_pk c)) + (own_pk d))), .second, .val (.long ((a.toInt64 &&& (4294967295 : Int64)) + (b.toInt64 &&& (4294967295 : Int64)))), .second, .val (.long ((((a.toInt64 &&& (4294967295 : Int64)) + (b.toInt64 &&& (4294967295 : Int64))) &&& (4294967295 : Int64)) ^^^ (c.toInt64 &&& (4294967295 : Int64)))), .second, .val (.long (((((a.toInt64 &&& (4294967295 : Int64)) + (b.toInt64 &&& (4294967295 : Int64))) &&& (4294967295 : Int64)) ^^^ (c.toInt64 &&& (4294967295 : Int64))) + (d.toInt64 &&& (4294967295 : Int64)))), .second, .val (.long (((((a.toInt64 &&& (4294967295 : Int64)) + (b.toInt64 &&& (4294967295 : Int64))).toUInt64 >>> ((32 : Int32) &&& 0x3f).toInt64.toUInt64).toInt64) + (((((((a.toInt64 &&& (4294967295 : Int64)) + (b.toInt64 &&& (4294967295 : Int64))) &&& (4294967295 : Int64)) ^^^ (c.toInt64 &&& (4294967295 : Int64))) + (d.toInt64 &&& (4294967295 : Int64))).toUInt64 >>> ((32 : Int32) &&& 0x3f).toInt64.toUInt64).toInt64))), .second, .unset, .unset, .unset] [(.int (((a + b) ^^^ c) + d))])
  refine Goes.go (fun _ => XS.istore S.here B.x rfl (B.d at_169) rfl (l' := #[.val (.int w), .val (.int a), .val (.int b), .val (.int c), .val (.int d), .val (.ref b1), .val (.int ((w >>> ((24 : Int32) &&& 31)) &&& (255 : Int32))), .val (.int ((w >>> ((16 : Int32) &&& 31)) &&& (255 : Int32))), .val (.int ((w >>> ((8 : Int32) &&& 31)) &&& (255 : Int32))), .val (.int (w &&& (255 : Int32))), .val (.long ((((own_pk a) + (own_pk b)) ^^^ (own_pk c)) + (own_pk d))), .second, .val (.long ((a.toInt64 &&& (4294967295 : Int64)) + (b.toInt64 &&& (4294967295 : Int64)))), .second, .val (.long ((((a.toInt64 &&& (4294967295 : Int64)) + (b.toInt64 &&& (4294967295 : Int64))) &&& (4294967295 : Int64)) ^^^ (c.toInt64 &&& (4294967295 : Int64)))), .second, .val (.long (((((a.toInt64 &&& (4294967295 : Int64)) + (b.toInt64 &&& (4294967295 : Int64))) &&& (4294967295 : Int64)) ^^^ (c.toInt64 &&& (4294967295 : Int64))) + (d.toInt64 &&& (4294967295 : Int64)))), .second, .val (.long (((((a.toInt64 &&& (4294967295 : Int64)) + (b.toInt64 &&& (4294967295 : Int64))).toUInt64 >>> ((32 : Int32) &&& 0x3f).toInt64.toUInt64).toInt64) + (((((((a.toInt64 &&& (4294967295 : Int64)) + (b.toInt64 &&& (4294967295 : Int64))) &&& (4294967295 : Int64)) ^^^ (c.toInt64 &&& (4294967295 : Int64))) + (d.toInt64 &&& (4294967295 : Int64))).toUInt64 >>> ((32 : Int32) &&& 0x3f).toInt64.toUInt64).toInt64))), .second, .val (.int (((a + b) ^^^ c) + d)), .unset, .unset]) rfl) ?_
  show Goes _ _ _ _ T (mkF me_ 171 #[.val (.int w), .val (.int a), .val (.int b), .val (.int c), .val (.int d), .val (.ref b1), .val (.int ((w >>> ((24 : Int32) &&& 31)) &&& (255 : Int32))), .val (.int ((w >>> ((16 : Int32) &&& 31)) &&& (255 : Int32))), .val (.int ((w >>> ((8 : Int32) &&& 31)) &&& (255 : Int32))), .val (.int (w &&& (255 : Int32))), .val (.long ((((own_pk a) + (own_pk b)) ^^^ (own_pk c)) + (own_pk d))), .second, .val (.long ((a.toInt64 &&& (4294967295 : Int64)) + (b.toInt64 &&& (4294967295 : Int64)))), .second, .val (.long ((((a.toInt64 &&& (4294967295 : Int64)) + (b.toInt64 &&& (4294967295 : Int64))) &&& (4294967295 : Int64)) ^^^ (c.toInt64 &&& (4294967295 : Int64)))), .second, .val (.long (((((a.toInt64 &&& (4294967295 : Int64)) + (b.toInt64 &&& (4294967295 : Int64))) &&& (4294967295 : Int64)) ^^^ (c.toInt64 &&& (4294967295 : Int64))) + (d.toInt64 &&& (4294967295 : Int64)))), .second, .val (.long (((((a.toInt64 &&& (4294967295 : Int64)) + (b.toInt64 &&& (4294967295 : Int64))).toUInt64 >>> ((32 : Int32) &&& 0x3f).toInt64.toUInt64).toInt64) + (((((((a.toInt64 &&& (4294967295 : Int64)) + (b.toInt64 &&& (4294967295 : Int64))) &&& (4294967295 : Int64)) ^^^ (c.toInt64 &&& (4294967295 : Int64))) + (d.toInt64 &&& (4294967295 : Int64))).toUInt64 >>> ((32 : Int32) &&& 0x3f).toInt64.toUInt64).toInt64))), .second, .val (.int (((a + b) ^^^ c) + d)), .unset, .unset] [])
  refine Goes.go (fun _ => XS.iload S.here B.x rfl (B.d at_171) rfl) ?_
  show Goes _ _ _ _ T (mkF me_ 173 #[.val (.int w), .val (.int a), .val (.int b), .val (.int c), .val (.int d), .val (.ref b1), .val (.int ((w >>> ((24 : Int32) &&& 31)) &&& (255 : Int32))), .val (.int ((w >>> ((16 : Int32) &&& 31)) &&& (255 : Int32))), .val (.int ((w >>> ((8 : Int32) &&& 31)) &&& (255 : Int32))), .val (.int (w &&& (255 : Int32))), .val (.long ((((own_pk a) + (own_pk b)) ^^^ (own_pk c)) + (own_pk d))), .second, .val (.long ((a.toInt64 &&& (4294967295 : Int64)) + (b.toInt64 &&& (4294967295 : Int64)))), .second, .val (.long ((((a.toInt64 &&& (4294967295 : Int64)) + (b.toInt64 &&& (4294967295 : Int64))) &&& (4294967295 : Int64)) ^^^ (c.toInt64 &&& (4294967295 : Int64)))), .second, .val (.long (((((a.toInt64 &&& (4294967295 : Int64)) + (b.toInt64 &&& (4294967295 : Int64))) &&& (4294967295 : Int64)) ^^^ (c.toInt64 &&& (4294967295 : Int64))) + (d.toInt64 &&& (4294967295 : Int64)))), .second, .val (.long (((((a.toInt64 &&& (4294967295 : Int64)) + (b.toInt64 &&& (4294967295 : Int64))).toUInt64 >>> ((32 : Int32) &&& 0x3f).toInt64.toUInt64).toInt64) + (((((((a.toInt64 &&& (4294967295 : Int64)) + (b.toInt64 &&& (4294967295 : Int64))) &&& (4294967295 : Int64)) ^^^ (c.toInt64 &&& (4294967295 : Int64))) + (d.toInt64 &&& (4294967295 : Int64))).toUInt64 >>> ((32 : Int32) &&& 0x3f).toInt64.toUInt64).toInt64))), .second, .val (.int (((a + b) ^^^ c) + d)), .unset, .unset] [(.int (((a + b) ^^^ c) + d))])
  refine Goes.go (fun _ => XS.i2l S.here B.x rfl (B.d at_173) rfl) ?_
  show Goes _ _ _ _ T (mkF me_ 174 #[.val (.int w), .val (.int a), .val (.int b), .val (.int c), .val (.int d), .val (.ref b1), .val (.int ((w >>> ((24 : Int32) &&& 31)) &&& (255 : Int32))), .val (.int ((w >>> ((16 : Int32) &&& 31)) &&& (255 : Int32))), .val (.int ((w >>> ((8 : Int32) &&& 31)) &&& (255 : Int32))), .val (.int (w &&& (255 : Int32))), .val (.long ((((own_pk a) + (own_pk b)) ^^^ (own_pk c)) + (own_pk d))), .second, .val (.long ((a.toInt64 &&& (4294967295 : Int64)) + (b.toInt64 &&& (4294967295 : Int64)))), .second, .val (.long ((((a.toInt64 &&& (4294967295 : Int64)) + (b.toInt64 &&& (4294967295 : Int64))) &&& (4294967295 : Int64)) ^^^ (c.toInt64 &&& (4294967295 : Int64)))), .second, .val (.long (((((a.toInt64 &&& (4294967295 : Int64)) + (b.toInt64 &&& (4294967295 : Int64))) &&& (4294967295 : Int64)) ^^^ (c.toInt64 &&& (4294967295 : Int64))) + (d.toInt64 &&& (4294967295 : Int64)))), .second, .val (.long (((((a.toInt64 &&& (4294967295 : Int64)) + (b.toInt64 &&& (4294967295 : Int64))).toUInt64 >>> ((32 : Int32) &&& 0x3f).toInt64.toUInt64).toInt64) + (((((((a.toInt64 &&& (4294967295 : Int64)) + (b.toInt64 &&& (4294967295 : Int64))) &&& (4294967295 : Int64)) ^^^ (c.toInt64 &&& (4294967295 : Int64))) + (d.toInt64 &&& (4294967295 : Int64))).toUInt64 >>> ((32 : Int32) &&& 0x3f).toInt64.toUInt64).toInt64))), .second, .val (.int (((a + b) ^^^ c) + d)), .unset, .unset] [(.long (((a + b) ^^^ c) + d).toInt64)])
  refine Goes.go (fun _ => XS.bipush S.here B.x rfl (B.d at_174)) ?_
  show Goes _ _ _ _ T (mkF me_ 176 #[.val (.int w), .val (.int a), .val (.int b), .val (.int c), .val (.int d), .val (.ref b1), .val (.int ((w >>> ((24 : Int32) &&& 31)) &&& (255 : Int32))), .val (.int ((w >>> ((16 : Int32) &&& 31)) &&& (255 : Int32))), .val (.int ((w >>> ((8 : Int32) &&& 31)) &&& (255 : Int32))), .val (.int (w &&& (255 : Int32))), .val (.long ((((own_pk a) + (own_pk b)) ^^^ (own_pk c)) + (own_pk d))), .second, .val (.long ((a.toInt64 &&& (4294967295 : Int64)) + (b.toInt64 &&& (4294967295 : Int64)))), .second, .val (.long ((((a.toInt64 &&& (4294967295 : Int64)) + (b.toInt64 &&& (4294967295 : Int64))) &&& (4294967295 : Int64)) ^^^ (c.toInt64 &&& (4294967295 : Int64)))), .second, .val (.long (((((a.toInt64 &&& (4294967295 : Int64)) + (b.toInt64 &&& (4294967295 : Int64))) &&& (4294967295 : Int64)) ^^^ (c.toInt64 &&& (4294967295 : Int64))) + (d.toInt64 &&& (4294967295 : Int64)))), .second, .val (.long (((((a.toInt64 &&& (4294967295 : Int64)) + (b.toInt64 &&& (4294967295 : Int64))).toUInt64 >>> ((32 : Int32) &&& 0x3f).toInt64.toUInt64).toInt64) + (((((((a.toInt64 &&& (4294967295 : Int64)) + (b.toInt64 &&& (4294967295 : Int64))) &&& (4294967295 : Int64)) ^^^ (c.toInt64 &&& (4294967295 : Int64))) + (d.toInt64 &&& (4294967295 : Int64))).toUInt64 >>> ((32 : Int32) &&& 0x3f).toInt64.toUInt64).toInt64))), .second, .val (.int (((a + b) ^^^ c) + d)), .unset, .unset] [(.int (40 : Int32)), (.long (((a + b) ^^^ c) + d).toInt64)])
  refine Goes.go (fun _ => XS.lshl S.here B.x rfl (B.d at_176) rfl) ?_
  show Goes _ _ _ _ T (mkF me_ 177 #[.val (.int w), .val (.int a), .val (.int b), .val (.int c), .val (.int d), .val (.ref b1), .val (.int ((w >>> ((24 : Int32) &&& 31)) &&& (255 : Int32))), .val (.int ((w >>> ((16 : Int32) &&& 31)) &&& (255 : Int32))), .val (.int ((w >>> ((8 : Int32) &&& 31)) &&& (255 : Int32))), .val (.int (w &&& (255 : Int32))), .val (.long ((((own_pk a) + (own_pk b)) ^^^ (own_pk c)) + (own_pk d))), .second, .val (.long ((a.toInt64 &&& (4294967295 : Int64)) + (b.toInt64 &&& (4294967295 : Int64)))), .second, .val (.long ((((a.toInt64 &&& (4294967295 : Int64)) + (b.toInt64 &&& (4294967295 : Int64))) &&& (4294967295 : Int64)) ^^^ (c.toInt64 &&& (4294967295 : Int64)))), .second, .val (.long (((((a.toInt64 &&& (4294967295 : Int64)) + (b.toInt64 &&& (4294967295 : Int64))) &&& (4294967295 : Int64)) ^^^ (c.toInt64 &&& (4294967295 : Int64))) + (d.toInt64 &&& (4294967295 : Int64)))), .second, .val (.long (((((a.toInt64 &&& (4294967295 : Int64)) + (b.toInt64 &&& (4294967295 : Int64))).toUInt64 >>> ((32 : Int32) &&& 0x3f).toInt64.toUInt64).toInt64) + (((((((a.toInt64 &&& (4294967295 : Int64)) + (b.toInt64 &&& (4294967295 : Int64))) &&& (4294967295 : Int64)) ^^^ (c.toInt64 &&& (4294967295 : Int64))) + (d.toInt64 &&& (4294967295 : Int64))).toUInt64 >>> ((32 : Int32) &&& 0x3f).toInt64.toUInt64).toInt64))), .second, .val (.int (((a + b) ^^^ c) + d)), .unset, .unset] [(.long ((((a + b) ^^^ c) + d).toInt64 <<< ((40 : Int32) &&& 0x3f).toInt64))])
  refine Goes.go (fun _ => XS.lload S.here B.x rfl (B.d at_177) rfl) ?_
  show Goes _ _ _ _ T (mkF me_ 179 #[.val (.int w), .val (.int a), .val (.int b), .val (.int c), .val (.int d), .val (.ref b1), .val (.int ((w >>> ((24 : Int32) &&& 31)) &&& (255 : Int32))), .val (.int ((w >>> ((16 : Int32) &&& 31)) &&& (255 : Int32))), .val (.int ((w >>> ((8 : Int32) &&& 31)) &&& (255 : Int32))), .val (.int (w &&& (255 : Int32))), .val (.long ((((own_pk a) + (own_pk b)) ^^^ (own_pk c)) + (own_pk d))), .second, .val (.long ((a.toInt64 &&& (4294967295 : Int64)) + (b.toInt64 &&& (4294967295 : Int64)))), .second, .val (.long ((((a.toInt64 &&& (4294967295 : Int64)) + (b.toInt64 &&& (4294967295 : Int64))) &&& (4294967295 : Int64)) ^^^ (c.toInt64 &&& (4294967295 : Int64)))), .second, .val (.long (((((a.toInt64 &&& (4294967295 : Int64)) + (b.toInt64 &&& (4294967295 : Int64))) &&& (4294967295 : Int64)) ^^^ (c.toInt64 &&& (4294967295 : Int64))) + (d.toInt64 &&& (4294967295 : Int64)))), .second, .val (.long (((((a.toInt64 &&& (4294967295 : Int64)) + (b.toInt64 &&& (4294967295 : Int64))).toUInt64 >>> ((32 : Int32) &&& 0x3f).toInt64.toUInt64).toInt64) + (((((((a.toInt64 &&& (4294967295 : Int64)) + (b.toInt64 &&& (4294967295 : Int64))) &&& (4294967295 : Int64)) ^^^ (c.toInt64 &&& (4294967295 : Int64))) + (d.toInt64 &&& (4294967295 : Int64))).toUInt64 >>> ((32 : Int32) &&& 0x3f).toInt64.toUInt64).toInt64))), .second, .val (.int (((a + b) ^^^ c) + d)), .unset, .unset] [(.long (((((a.toInt64 &&& (4294967295 : Int64)) + (b.toInt64 &&& (4294967295 : Int64))).toUInt64 >>> ((32 : Int32) &&& 0x3f).toInt64.toUInt64).toInt64) + (((((((a.toInt64 &&& (4294967295 : Int64)) + (b.toInt64 &&& (4294967295 : Int64))) &&& (4294967295 : Int64)) ^^^ (c.toInt64 &&& (4294967295 : Int64))) + (d.toInt64 &&& (4294967295 : Int64))).toUInt64 >>> ((32 : Int32) &&& 0x3f).toInt64.toUInt64).toInt64))), (.long ((((a + b) ^^^ c) + d).toInt64 <<< ((40 : Int32) &&& 0x3f).toInt64))])
  refine Goes.go (fun _ => XS.bipush S.here B.x rfl (B.d at_179)) ?_
  show Goes _ _ _ _ T (mkF me_ 181 #[.val (.int w), .val (.int a), .val (.int b), .val (.int c), .val (.int d), .val (.ref b1), .val (.int ((w >>> ((24 : Int32) &&& 31)) &&& (255 : Int32))), .val (.int ((w >>> ((16 : Int32) &&& 31)) &&& (255 : Int32))), .val (.int ((w >>> ((8 : Int32) &&& 31)) &&& (255 : Int32))), .val (.int (w &&& (255 : Int32))), .val (.long ((((own_pk a) + (own_pk b)) ^^^ (own_pk c)) + (own_pk d))), .second, .val (.long ((a.toInt64 &&& (4294967295 : Int64)) + (b.toInt64 &&& (4294967295 : Int64)))), .second, .val (.long ((((a.toInt64 &&& (4294967295 : Int64)) + (b.toInt64 &&& (4294967295 : Int64))) &&& (4294967295 : Int64)) ^^^ (c.toInt64 &&& (4294967295 : Int64)))), .second, .val (.long (((((a.toInt64 &&& (4294967295 : Int64)) + (b.toInt64 &&& (4294967295 : Int64))) &&& (4294967295 : Int64)) ^^^ (c.toInt64 &&& (4294967295 : Int64))) + (d.toInt64 &&& (4294967295 : Int64)))), .second, .val (.long (((((a.toInt64 &&& (4294967295 : Int64)) + (b.toInt64 &&& (4294967295 : Int64))).toUInt64 >>> ((32 : Int32) &&& 0x3f).toInt64.toUInt64).toInt64) + (((((((a.toInt64 &&& (4294967295 : Int64)) + (b.toInt64 &&& (4294967295 : Int64))) &&& (4294967295 : Int64)) ^^^ (c.toInt64 &&& (4294967295 : Int64))) + (d.toInt64 &&& (4294967295 : Int64))).toUInt64 >>> ((32 : Int32) &&& 0x3f).toInt64.toUInt64).toInt64))), .second, .val (.int (((a + b) ^^^ c) + d)), .unset, .unset] [(.int (32 : Int32)), (.long (((((a.toInt64 &&& (4294967295 : Int64)) + (b.toInt64 &&& (4294967295 : Int64))).toUInt64 >>> ((32 : Int32) &&& 0x3f).toInt64.toUInt64).toInt64) + (((((((a.toInt64 &&& (4294967295 : Int64)) + (b.toInt64 &&& (4294967295 : Int64))) &&& (4294967295 : Int64)) ^^^ (c.toInt64 &&& (4294967295 : Int64))) + (d.toInt64 &&& (4294967295 : Int64))).toUInt64 >>> ((32 : Int32) &&& 0x3f).toInt64.toUInt64).toInt64))), (.long ((((a + b) ^^^ c) + d).toInt64 <<< ((40 : Int32) &&& 0x3f).toInt64))])
  refine Goes.go (fun _ => XS.lshl S.here B.x rfl (B.d at_181) rfl) ?_
  show Goes _ _ _ _ T (mkF me_ 182 #[.val (.int w), .val (.int a), .val (.int b), .val (.int c), .val (.int d), .val (.ref b1), .val (.int ((w >>> ((24 : Int32) &&& 31)) &&& (255 : Int32))), .val (.int ((w >>> ((16 : Int32) &&& 31)) &&& (255 : Int32))), .val (.int ((w >>> ((8 : Int32) &&& 31)) &&& (255 : Int32))), .val (.int (w &&& (255 : Int32))), .val (.long ((((own_pk a) + (own_pk b)) ^^^ (own_pk c)) + (own_pk d))), .second, .val (.long ((a.toInt64 &&& (4294967295 : Int64)) + (b.toInt64 &&& (4294967295 : Int64)))), .second, .val (.long ((((a.toInt64 &&& (4294967295 : Int64)) + (b.toInt64 &&& (4294967295 : Int64))) &&& (4294967295 : Int64)) ^^^ (c.toInt64 &&& (4294967295 : Int64)))), .second, .val (.long (((((a.toInt64 &&& (4294967295 : Int64)) + (b.toInt64 &&& (4294967295 : Int64))) &&& (4294967295 : Int64)) ^^^ (c.toInt64 &&& (4294967295 : Int64))) + (d.toInt64 &&& (4294967295 : Int64)))), .second, .val (.long (((((a.toInt64 &&& (4294967295 : Int64)) + (b.toInt64 &&& (4294967295 : Int64))).toUInt64 >>> ((32 : Int32) &&& 0x3f).toInt64.toUInt64).toInt64) + (((((((a.toInt64 &&& (4294967295 : Int64)) + (b.toInt64 &&& (4294967295 : Int64))) &&& (4294967295 : Int64)) ^^^ (c.toInt64 &&& (4294967295 : Int64))) + (d.toInt64 &&& (4294967295 : Int64))).toUInt64 >>> ((32 : Int32) &&& 0x3f).toInt64.toUInt64).toInt64))), .second, .val (.int (((a + b) ^^^ c) + d)), .unset, .unset] [(.long ((((((a.toInt64 &&& (4294967295 : Int64)) + (b.toInt64 &&& (4294967295 : Int64))).toUInt64 >>> ((32 : Int32) &&& 0x3f).toInt64.toUInt64).toInt64) + (((((((a.toInt64 &&& (4294967295 : Int64)) + (b.toInt64 &&& (4294967295 : Int64))) &&& (4294967295 : Int64)) ^^^ (c.toInt64 &&& (4294967295 : Int64))) + (d.toInt64 &&& (4294967295 : Int64))).toUInt64 >>> ((32 : Int32) &&& 0x3f).toInt64.toUInt64).toInt64)) <<< ((32 : Int32) &&& 0x3f).toInt64)), (.long ((((a + b) ^^^ c) + d).toInt64 <<< ((40 : Int32) &&& 0x3f).toInt64))])
  refine Goes.go (fun _ => XS.lor S.here B.x rfl (B.d at_182) rfl) ?_
  show Goes _ _ _ _ T (mkF me_ 183 #[.val (.int w), .val (.int a), .val (.int b), .val (.int c), .val (.int d), .val (.ref b1), .val (.int ((w >>> ((24 : Int32) &&& 31)) &&& (255 : Int32))), .val (.int ((w >>> ((16 : Int32) &&& 31)) &&& (255 : Int32))), .val (.int ((w >>> ((8 : Int32) &&& 31)) &&& (255 : Int32))), .val (.int (w &&& (255 : Int32))), .val (.long ((((own_pk a) + (own_pk b)) ^^^ (own_pk c)) + (own_pk d))), .second, .val (.long ((a.toInt64 &&& (4294967295 : Int64)) + (b.toInt64 &&& (4294967295 : Int64)))), .second, .val (.long ((((a.toInt64 &&& (4294967295 : Int64)) + (b.toInt64 &&& (4294967295 : Int64))) &&& (4294967295 : Int64)) ^^^ (c.toInt64 &&& (4294967295 : Int64)))), .second, .val (.long (((((a.toInt64 &&& (4294967295 : Int64)) + (b.toInt64 &&& (4294967295 : Int64))) &&& (4294967295 : Int64)) ^^^ (c.toInt64 &&& (4294967295 : Int64))) + (d.toInt64 &&& (4294967295 : Int64)))), .second, .val (.long (((((a.toInt64 &&& (4294967295 : Int64)) + (b.toInt64 &&& (4294967295 : Int64))).toUInt64 >>> ((32 : Int32) &&& 0x3f).toInt64.toUInt64).toInt64) + (((((((a.toInt64 &&& (4294967295 : Int64)) + (b.toInt64 &&& (4294967295 : Int64))) &&& (4294967295 : Int64)) ^^^ (c.toInt64 &&& (4294967295 : Int64))) + (d.toInt64 &&& (4294967295 : Int64))).toUInt64 >>> ((32 : Int32) &&& 0x3f).toInt64.toUInt64).toInt64))), .second, .val (.int (((a + b) ^^^ c) + d)), .unset, .unset] [(.long (((((a + b) ^^^ c) + d).toInt64 <<< ((40 : Int32) &&& 0x3f).toInt64) ||| ((((((a.toInt64 &&& (4294967295 : Int64)) + (b.toInt64 &&& (4294967295 : Int64))).toUInt64 >>> ((32 : Int32) &&& 0x3f).toInt64.toUInt64).toInt64) + (((((((a.toInt64 &&& (4294967295 : Int64)) + (b.toInt64 &&& (4294967295 : Int64))) &&& (4294967295 : Int64)) ^^^ (c.toInt64 &&& (4294967295 : Int64))) + (d.toInt64 &&& (4294967295 : Int64))).toUInt64 >>> ((32 : Int32) &&& 0x3f).toInt64.toUInt64).toInt64)) <<< ((32 : Int32) &&& 0x3f).toInt64)))])
  refine Goes.go (fun _ => XS.iload S.here B.x rfl (B.d at_183) rfl) ?_
  show Goes _ _ _ _ T (mkF me_ 185 #[.val (.int w), .val (.int a), .val (.int b), .val (.int c), .val (.int d), .val (.ref b1), .val (.int ((w >>> ((24 : Int32) &&& 31)) &&& (255 : Int32))), .val (.int ((w >>> ((16 : Int32) &&& 31)) &&& (255 : Int32))), .val (.int ((w >>> ((8 : Int32) &&& 31)) &&& (255 : Int32))), .val (.int (w &&& (255 : Int32))), .val (.long ((((own_pk a) + (own_pk b)) ^^^ (own_pk c)) + (own_pk d))), .second, .val (.long ((a.toInt64 &&& (4294967295 : Int64)) + (b.toInt64 &&& (4294967295 : Int64)))), .second, .val (.long ((((a.toInt64 &&& (4294967295 : Int64)) + (b.toInt64 &&& (4294967295 : Int64))) &&& (4294967295 : Int64)) ^^^ (c.toInt64 &&& (4294967295 : Int64)))), .second, .val (.long (((((a.toInt64 &&& (4294967295 : Int64)) + (b.toInt64 &&& (4294967295 : Int64))) &&& (4294967295 : Int64)) ^^^ (c.toInt64 &&& (4294967295 : Int64))) + (d.toInt64 &&& (4294967295 : Int64)))), .second, .val (.long (((((a.toInt64 &&& (4294967295 : Int64)) + (b.toInt64 &&& (4294967295 : Int64))).toUInt64 >>> ((32 : Int32) &&& 0x3f).toInt64.toUInt64).toInt64) + (((((((a.toInt64 &&& (4294967295 : Int64)) + (b.toInt64 &&& (4294967295 : Int64))) &&& (4294967295 : Int64)) ^^^ (c.toInt64 &&& (4294967295 : Int64))) + (d.toInt64 &&& (4294967295 : Int64))).toUInt64 >>> ((32 : Int32) &&& 0x3f).toInt64.toUInt64).toInt64))), .second, .val (.int (((a + b) ^^^ c) + d)), .unset, .unset] [(.int (((a + b) ^^^ c) + d)), (.long (((((a + b) ^^^ c) + d).toInt64 <<< ((40 : Int32) &&& 0x3f).toInt64) ||| ((((((a.toInt64 &&& (4294967295 : Int64)) + (b.toInt64 &&& (4294967295 : Int64))).toUInt64 >>> ((32 : Int32) &&& 0x3f).toInt64.toUInt64).toInt64) + (((((((a.toInt64 &&& (4294967295 : Int64)) + (b.toInt64 &&& (4294967295 : Int64))) &&& (4294967295 : Int64)) ^^^ (c.toInt64 &&& (4294967295 : Int64))) + (d.toInt64 &&& (4294967295 : Int64))).toUInt64 >>> ((32 : Int32) &&& 0x3f).toInt64.toUInt64).toInt64)) <<< ((32 : Int32) &&& 0x3f).toInt64)))])
  refine Goes.go (fun _ => XS.i2l S.here B.x rfl (B.d at_185) rfl) ?_
  show Goes _ _ _ _ T (mkF me_ 186 #[.val (.int w), .val (.int a), .val (.int b), .val (.int c), .val (.int d), .val (.ref b1), .val (.int ((w >>> ((24 : Int32) &&& 31)) &&& (255 : Int32))), .val (.int ((w >>> ((16 : Int32) &&& 31)) &&& (255 : Int32))), .val (.int ((w >>> ((8 : Int32) &&& 31)) &&& (255 : Int32))), .val (.int (w &&& (255 : Int32))), .val (.long ((((own_pk a) + (own_pk b)) ^^^ (own_pk c)) + (own_pk d))), .second, .val (.long ((a.toInt64 &&& (4294967295 : Int64)) + (b.toInt64 &&& (4294967295 : Int64)))), .second, .val (.long ((((a.toInt64 &&& (4294967295 : Int64)) + (b.toInt64 &&& (4294967295 : Int64))) &&& (4294967295 : Int64)) ^^^ (c.toInt64 &&& (4294967295 : Int64)))), .second, .val (.long (((((a.toInt64 &&& (4294967295 : Int64)) + (b.toInt64 &&& (4294967295 : Int64))) &&& (4294967295 : Int64)) ^^^ (c.toInt64 &&& (4294967295 : Int64))) + (d.toInt64 &&& (4294967295 : Int64)))), .second, .val (.long (((((a.toInt64 &&& (4294967295 : Int64)) + (b.toInt64 &&& (4294967295 : Int64))).toUInt64 >>> ((32 : Int32) &&& 0x3f).toInt64.toUInt64).toInt64) + (((((((a.toInt64 &&& (4294967295 : Int64)) + (b.toInt64 &&& (4294967295 : Int64))) &&& (4294967295 : Int64)) ^^^ (c.toInt64 &&& (4294967295 : Int64))) + (d.toInt64 &&& (4294967295 : Int64))).toUInt64 >>> ((32 : Int32) &&& 0x3f).toInt64.toUInt64).toInt64))), .second, .val (.int (((a + b) ^^^ c) + d)), .unset, .unset] [(.long (((a + b) ^^^ c) + d).toInt64), (.long (((((a + b) ^^^ c) + d).toInt64 <<< ((40 : Int32) &&& 0x3f).toInt64) ||| ((((((a.toInt64 &&& (4294967295 : Int64)) + (b.toInt64 &&& (4294967295 : Int64))).toUInt64 >>> ((32 : Int32) &&& 0x3f).toInt64.toUInt64).toInt64) + (((((((a.toInt64 &&& (4294967295 : Int64)) + (b.toInt64 &&& (4294967295 : Int64))) &&& (4294967295 : Int64)) ^^^ (c.toInt64 &&& (4294967295 : Int64))) + (d.toInt64 &&& (4294967295 : Int64))).toUInt64 >>> ((32 : Int32) &&& 0x3f).toInt64.toUInt64).toInt64)) <<< ((32 : Int32) &&& 0x3f).toInt64)))])
  refine Goes.ldcL S B (w5 hw) at_186 ?_
  show Goes _ _ _ _ T (mkF me_ 189 #[.val (.int w), .val (.int a), .val (.int b), .val (.int c), .val (.int d), .val (.ref b1), .val (.int ((w >>> ((24 : Int32) &&& 31)) &&& (255 : Int32))), .val (.int ((w >>> ((16 : Int32) &&& 31)) &&& (255 : Int32))), .val (.int ((w >>> ((8 : Int32) &&& 31)) &&& (255 : Int32))), .val (.int (w &&& (255 : Int32))), .val (.long ((((own_pk a) + (own_pk b)) ^^^ (own_pk c)) + (own_pk d))), .second, .val (.long ((a.toInt64 &&& (4294967295 : Int64)) + (b.toInt64 &&& (4294967295 : Int64)))), .second, .val (.long ((((a.toInt64 &&& (4294967295 : Int64)) + (b.toInt64 &&& (4294967295 : Int64))) &&& (4294967295 : Int64)) ^^^ (c.toInt64 &&& (4294967295 : Int64)))), .second, .val (.long (((((a.toInt64 &&& (4294967295 : Int64)) + (b.toInt64 &&& (4294967295 : Int64))) &&& (4294967295 : Int64)) ^^^ (c.toInt64 &&& (4294967295 : Int64))) + (d.toInt64 &&& (4294967295 : Int64)))), .second, .val (.long (((((a.toInt64 &&& (4294967295 : Int64)) + (b.toInt64 &&& (4294967295 : Int64))).toUInt64 >>> ((32 : Int32) &&& 0x3f).toInt64.toUInt64).toInt64) + (((((((a.toInt64 &&& (4294967295 : Int64)) + (b.toInt64 &&& (4294967295 : Int64))) &&& (4294967295 : Int64)) ^^^ (c.toInt64 &&& (4294967295 : Int64))) + (d.toInt64 &&& (4294967295 : Int64))).toUInt64 >>> ((32 : Int32) &&& 0x3f).toInt64.toUInt64).toInt64))), .second, .val (.int (((a + b) ^^^ c) + d)), .unset, .unset] [(.long (4294967295 : Int64)), (.long (((a + b) ^^^ c) + d).toInt64), (.long (((((a + b) ^^^ c) + d).toInt64 <<< ((40 : Int32) &&& 0x3f).toInt64) ||| ((((((a.toInt64 &&& (4294967295 : Int64)) + (b.toInt64 &&& (4294967295 : Int64))).toUInt64 >>> ((32 : Int32) &&& 0x3f).toInt64.toUInt64).toInt64) + (((((((a.toInt64 &&& (4294967295 : Int64)) + (b.toInt64 &&& (4294967295 : Int64))) &&& (4294967295 : Int64)) ^^^ (c.toInt64 &&& (4294967295 : Int64))) + (d.toInt64 &&& (4294967295 : Int64))).toUInt64 >>> ((32 : Int32) &&& 0x3f).toInt64.toUInt64).toInt64)) <<< ((32 : Int32) &&& 0x3f).toInt64)))])
  refine Goes.go (fun _ => XS.land S.here B.x rfl (B.d at_189) rfl) ?_
  show Goes _ _ _ _ T (mkF me_ 190 #[.val (.int w), .val (.int a), .val (.int b), .val (.int c), .val (.int d), .val (.ref b1), .val (.int ((w >>> ((24 : Int32) &&& 31)) &&& (255 : Int32))), .val (.int ((w >>> ((16 : Int32) &&& 31)) &&& (255 : Int32))), .val (.int ((w >>> ((8 : Int32) &&& 31)) &&& (255 : Int32))), .val (.int (w &&& (255 : Int32))), .val (.long ((((own_pk a) + (own_pk b)) ^^^ (own_pk c)) + (own_pk d))), .second, .val (.long ((a.toInt64 &&& (4294967295 : Int64)) + (b.toInt64 &&& (4294967295 : Int64)))), .second, .val (.long ((((a.toInt64 &&& (4294967295 : Int64)) + (b.toInt64 &&& (4294967295 : Int64))) &&& (4294967295 : Int64)) ^^^ (c.toInt64 &&& (4294967295 : Int64)))), .second, .val (.long (((((a.toInt64 &&& (4294967295 : Int64)) + (b.toInt64 &&& (4294967295 : Int64))) &&& (4294967295 : Int64)) ^^^ (c.toInt64 &&& (4294967295 : Int64))) + (d.toInt64 &&& (4294967295 : Int64)))), .second, .val (.long (((((a.toInt64 &&& (4294967295 : Int64)) + (b.toInt64 &&& (4294967295 : Int64))).toUInt64 >>> ((32 : Int32) &&& 0x3f).toInt64.toUInt64).toInt64) + (((((((a.toInt64 &&& (4294967295 : Int64)) + (b.toInt64 &&& (4294967295 : Int64))) &&& (4294967295 : Int64)) ^^^ (c.toInt64 &&& (4294967295 : Int64))) + (d.toInt64 &&& (4294967295 : Int64))).toUInt64 >>> ((32 : Int32) &&& 0x3f).toInt64.toUInt64).toInt64))), .second, .val (.int (((a + b) ^^^ c) + d)), .unset, .unset] [(.long ((((a + b) ^^^ c) + d).toInt64 &&& (4294967295 : Int64))), (.long (((((a + b) ^^^ c) + d).toInt64 <<< ((40 : Int32) &&& 0x3f).toInt64) ||| ((((((a.toInt64 &&& (4294967295 : Int64)) + (b.toInt64 &&& (4294967295 : Int64))).toUInt64 >>> ((32 : Int32) &&& 0x3f).toInt64.toUInt64).toInt64) + (((((((a.toInt64 &&& (4294967295 : Int64)) + (b.toInt64 &&& (4294967295 : Int64))) &&& (4294967295 : Int64)) ^^^ (c.toInt64 &&& (4294967295 : Int64))) + (d.toInt64 &&& (4294967295 : Int64))).toUInt64 >>> ((32 : Int32) &&& 0x3f).toInt64.toUInt64).toInt64)) <<< ((32 : Int32) &&& 0x3f).toInt64)))])
  refine Goes.go (fun _ => XS.lor S.here B.x rfl (B.d at_190) rfl) ?_
  show Goes _ _ _ _ T (mkF me_ 191 #[.val (.int w), .val (.int a), .val (.int b), .val (.int c), .val (.int d), .val (.ref b1), .val (.int ((w >>> ((24 : Int32) &&& 31)) &&& (255 : Int32))), .val (.int ((w >>> ((16 : Int32) &&& 31)) &&& (255 : Int32))), .val (.int ((w >>> ((8 : Int32) &&& 31)) &&& (255 : Int32))), .val (.int (w &&& (255 : Int32))), .val (.long ((((own_pk a) + (own_pk b)) ^^^ (own_pk c)) + (own_pk d))), .second, .val (.long ((a.toInt64 &&& (4294967295 : Int64)) + (b.toInt64 &&& (4294967295 : Int64)))), .second, .val (.long ((((a.toInt64 &&& (4294967295 : Int64)) + (b.toInt64 &&& (4294967295 : Int64))) &&& (4294967295 : Int64)) ^^^ (c.toInt64 &&& (4294967295 : Int64)))), .second, .val (.long (((((a.toInt64 &&& (4294967295 : Int64)) + (b.toInt64 &&& (4294967295 : Int64))) &&& (4294967295 : Int64)) ^^^ (c.toInt64 &&& (4294967295 : Int64))) + (d.toInt64 &&& (4294967295 : Int64)))), .second, .val (.long (((((a.toInt64 &&& (4294967295 : Int64)) + (b.toInt64 &&& (4294967295 : Int64))).toUInt64 >>> ((32 : Int32) &&& 0x3f).toInt64.toUInt64).toInt64) + (((((((a.toInt64 &&& (4294967295 : Int64)) + (b.toInt64 &&& (4294967295 : Int64))) &&& (4294967295 : Int64)) ^^^ (c.toInt64 &&& (4294967295 : Int64))) + (d.toInt64 &&& (4294967295 : Int64))).toUInt64 >>> ((32 : Int32) &&& 0x3f).toInt64.toUInt64).toInt64))), .second, .val (.int (((a + b) ^^^ c) + d)), .unset, .unset] [(.long ((((((a + b) ^^^ c) + d).toInt64 <<< ((40 : Int32) &&& 0x3f).toInt64) ||| ((((((a.toInt64 &&& (4294967295 : Int64)) + (b.toInt64 &&& (4294967295 : Int64))).toUInt64 >>> ((32 : Int32) &&& 0x3f).toInt64.toUInt64).toInt64) + (((((((a.toInt64 &&& (4294967295 : Int64)) + (b.toInt64 &&& (4294967295 : Int64))) &&& (4294967295 : Int64)) ^^^ (c.toInt64 &&& (4294967295 : Int64))) + (d.toInt64 &&& (4294967295 : Int64))).toUInt64 >>> ((32 : Int32) &&& 0x3f).toInt64.toUInt64).toInt64)) <<< ((32 : Int32) &&& 0x3f).toInt64)) ||| ((((a + b) ^^^ c) + d).toInt64 &&& (4294967295 : Int64))))])
  refine Goes.go (fun _ => XS.lstore S.here B.x rfl (B.d at_191) rfl (l' := #[.val (.int w), .val (.int a), .val (.int b), .val (.int c), .val (.int d), .val (.ref b1), .val (.int ((w >>> ((24 : Int32) &&& 31)) &&& (255 : Int32))), .val (.int ((w >>> ((16 : Int32) &&& 31)) &&& (255 : Int32))), .val (.int ((w >>> ((8 : Int32) &&& 31)) &&& (255 : Int32))), .val (.int (w &&& (255 : Int32))), .val (.long ((((own_pk a) + (own_pk b)) ^^^ (own_pk c)) + (own_pk d))), .second, .val (.long ((a.toInt64 &&& (4294967295 : Int64)) + (b.toInt64 &&& (4294967295 : Int64)))), .second, .val (.long ((((a.toInt64 &&& (4294967295 : Int64)) + (b.toInt64 &&& (4294967295 : Int64))) &&& (4294967295 : Int64)) ^^^ (c.toInt64 &&& (4294967295 : Int64)))), .second, .val (.long (((((a.toInt64 &&& (4294967295 : Int64)) + (b.toInt64 &&& (4294967295 : Int64))) &&& (4294967295 : Int64)) ^^^ (c.toInt64 &&& (4294967295 : Int64))) + (d.toInt64 &&& (4294967295 : Int64)))), .second, .val (.long (((((a.toInt64 &&& (4294967295 : Int64)) + (b.toInt64 &&& (4294967295 : Int64))).toUInt64 >>> ((32 : Int32) &&& 0x3f).toInt64.toUInt64).toInt64) + (((((((a.toInt64 &&& (4294967295 : Int64)) + (b.toInt64 &&& (4294967295 : Int64))) &&& (4294967295 : Int64)) ^^^ (c.toInt64 &&& (4294967295 : Int64))) + (d.toInt64 &&& (4294967295 : Int64))).toUInt64 >>> ((32 : Int32) &&& 0x3f).toInt64.toUInt64).toInt64))), .second, .val (.int (((a + b) ^^^ c) + d)), .val (.long ((((((a + b) ^^^ c) + d).toInt64 <<< ((40 : Int32) &&& 0x3f).toInt64) ||| ((((((a.toInt64 &&& (4294967295 : Int64)) + (b.toInt64 &&& (4294967295 : Int64))).toUInt64 >>> ((32 : Int32) &&& 0x3f).toInt64.toUInt64).toInt64) + (((((((a.toInt64 &&& (4294967295 : Int64)) + (b.toInt64 &&& (4294967295 : Int64))) &&& (4294967295 : Int64)) ^^^ (c.toInt64 &&& (4294967295 : Int64))) + (d.toInt64 &&& (4294967295 : Int64))).toUInt64 >>> ((32 : Int32) &&& 0x3f).toInt64.toUInt64).toInt64)) <<< ((32 : Int32) &&& 0x3f).toInt64)) ||| ((((a + b) ^^^ c) + d).toInt64 &&& (4294967295 : Int64)))), .second]) rfl) ?_
  show Goes _ _ _ _ T (mkF me_ 193 #[.val (.int w), .val (.int a), .val (.int b), .val (.int c), .val (.int d), .val (.ref b1), .val (.int ((w >>> ((24 : Int32) &&& 31)) &&& (255 : Int32))), .val (.int ((w >>> ((16 : Int32) &&& 31)) &&& (255 : Int32))), .val (.int ((w >>> ((8 : Int32) &&& 31)) &&& (255 : Int32))), .val (.int (w &&& (255 : Int32))), .val (.long ((((own_pk a) + (own_pk b)) ^^^ (own_pk c)) + (own_pk d))), .second, .val (.long ((a.toInt64 &&& (4294967295 : Int64)) + (b.toInt64 &&& (4294967295 : Int64)))), .second, .val (.long ((((a.toInt64 &&& (4294967295 : Int64)) + (b.toInt64 &&& (4294967295 : Int64))) &&& (4294967295 : Int64)) ^^^ (c.toInt64 &&& (4294967295 : Int64)))), .second, .val (.long (((((a.toInt64 &&& (4294967295 : Int64)) + (b.toInt64 &&& (4294967295 : Int64))) &&& (4294967295 : Int64)) ^^^ (c.toInt64 &&& (4294967295 : Int64))) + (d.toInt64 &&& (4294967295 : Int64)))), .second, .val (.long (((((a.toInt64 &&& (4294967295 : Int64)) + (b.toInt64 &&& (4294967295 : Int64))).toUInt64 >>> ((32 : Int32) &&& 0x3f).toInt64.toUInt64).toInt64) + (((((((a.toInt64 &&& (4294967295 : Int64)) + (b.toInt64 &&& (4294967295 : Int64))) &&& (4294967295 : Int64)) ^^^ (c.toInt64 &&& (4294967295 : Int64))) + (d.toInt64 &&& (4294967295 : Int64))).toUInt64 >>> ((32 : Int32) &&& 0x3f).toInt64.toUInt64).toInt64))), .second, .val (.int (((a + b) ^^^ c) + d)), .val (.long ((((((a + b) ^^^ c) + d).toInt64 <<< ((40 : Int32) &&& 0x3f).toInt64) ||| ((((((a.toInt64 &&& (4294967295 : Int64)) + (b.toInt64 &&& (4294967295 : Int64))).toUInt64 >>> ((32 : Int32) &&& 0x3f).toInt64.toUInt64).toInt64) + (((((((a.toInt64 &&& (4294967295 : Int64)) + (b.toInt64 &&& (4294967295 : Int64))) &&& (4294967295 : Int64)) ^^^ (c.toInt64 &&& (4294967295 : Int64))) + (d.toInt64 &&& (4294967295 : Int64))).toUInt64 >>> ((32 : Int32) &&& 0x3f).toInt64.toUInt64).toInt64)) <<< ((32 : Int32) &&& 0x3f).toInt64)) ||| ((((a + b) ^^^ c) + d).toInt64 &&& (4294967295 : Int64)))), .second] [])
  refine Goes.go (fun _ => XS.lload S.here B.x rfl (B.d at_193) rfl) ?_
  show Goes _ _ _ _ T (mkF me_ 195 #[.val (.int w), .val (.int a), .val (.int b), .val (.int c), .val (.int d), .val (.ref b1), .val (.int ((w >>> ((24 : Int32) &&& 31)) &&& (255 : Int32))), .val (.int ((w >>> ((16 : Int32) &&& 31)) &&& (255 : Int32))), .val (.int ((w >>> ((8 : Int32) &&& 31)) &&& (255 : Int32))), .val (.int (w &&& (255 : Int32))), .val (.long ((((own_pk a) + (own_pk b)) ^^^ (own_pk c)) + (own_pk d))), .second, .val (.long ((a.toInt64 &&& (4294967295 : Int64)) + (b.toInt64 &&& (4294967295 : Int64)))), .second, .val (.long ((((a.toInt64 &&& (4294967295 : Int64)) + (b.toInt64 &&& (4294967295 : Int64))) &&& (4294967295 : Int64)) ^^^ (c.toInt64 &&& (4294967295 : Int64)))), .second, .val (.long (((((a.toInt64 &&& (4294967295 : Int64)) + (b.toInt64 &&& (4294967295 : Int64))) &&& (4294967295 : Int64)) ^^^ (c.toInt64 &&& (4294967295 : Int64))) + (d.toInt64 &&& (4294967295 : Int64)))), .second, .val (.long (((((a.toInt64 &&& (4294967295 : Int64)) + (b.toInt64 &&& (4294967295 : Int64))).toUInt64 >>> ((32 : Int32) &&& 0x3f).toInt64.toUInt64).toInt64) + (((((((a.toInt64 &&& (4294967295 : Int64)) + (b.toInt64 &&& (4294967295 : Int64))) &&& (4294967295 : Int64)) ^^^ (c.toInt64 &&& (4294967295 : Int64))) + (d.toInt64 &&& (4294967295 : Int64))).toUInt64 >>> ((32 : Int32) &&& 0x3f).toInt64.toUInt64).toInt64))), .second, .val (.int (((a + b) ^^^ c) + d)), .val (.long ((((((a + b) ^^^ c) + d).toInt64 <<< ((40 : Int32) &&& 0x3f).toInt64) ||| ((((((a.toInt64 &&& (4294967295 : Int64)) + (b.toInt64 &&& (4294967295 : Int64))).toUInt64 >>> ((32 : Int32) &&& 0x3f).toInt64.toUInt64).toInt64) + (((((((a.toInt64 &&& (4294967295 : Int64)) + (b.toInt64 &&& (4294967295 : Int64))) &&& (4294967295 : Int64)) ^^^ (c.toInt64 &&& (4294967295 : Int64))) + (d.toInt64 &&& (4294967295 : Int64))).toUInt64 >>> ((32 : Int32) &&& 0x3f).toInt64.toUInt64).toInt64)) <<< ((32 : Int32) &&& 0x3f).toInt64)) ||| ((((a + b) ^^^ c) + d).toInt64 &&& (4294967295 : Int64)))), .second] [(.long ((((own_pk a) + (own_pk b)) ^^^ (own_pk c)) + (own_pk d)))])
  refine Goes.go (fun _ => XS.lload S.here B.x rfl (B.d at_195) rfl) ?_
  show Goes _ _ _ _ T (mkF me_ 197 #[.val (.int w), .val (.int a), .val (.int b), .val (.int c), .val (.int d), .val (.ref b1), .val (.int ((w >>> ((24 : Int32) &&& 31)) &&& (255 : Int32))), .val (.int ((w >>> ((16 : Int32) &&& 31)) &&& (255 : Int32))), .val (.int ((w >>> ((8 : Int32) &&& 31)) &&& (255 : Int32))), .val (.int (w &&& (255 : Int32))), .val (.long ((((own_pk a) + (own_pk b)) ^^^ (own_pk c)) + (own_pk d))), .second, .val (.long ((a.toInt64 &&& (4294967295 : Int64)) + (b.toInt64 &&& (4294967295 : Int64)))), .second, .val (.long ((((a.toInt64 &&& (4294967295 : Int64)) + (b.toInt64 &&& (4294967295 : Int64))) &&& (4294967295 : Int64)) ^^^ (c.toInt64 &&& (4294967295 : Int64)))), .second, .val (.long (((((a.toInt64 &&& (4294967295 : Int64)) + (b.toInt64 &&& (4294967295 : Int64))) &&& (4294967295 : Int64)) ^^^ (c.toInt64 &&& (4294967295 : Int64))) + (d.toInt64 &&& (4294967295 : Int64)))), .second, .val (.long (((((a.toInt64 &&& (4294967295 : Int64)) + (b.toInt64 &&& (4294967295 : Int64))).toUInt64 >>> ((32 : Int32) &&& 0x3f).toInt64.toUInt64).toInt64) + (((((((a.toInt64 &&& (4294967295 : Int64)) + (b.toInt64 &&& (4294967295 : Int64))) &&& (4294967295 : Int64)) ^^^ (c.toInt64 &&& (4294967295 : Int64))) + (d.toInt64 &&& (4294967295 : Int64))).toUInt64 >>> ((32 : Int32) &&& 0x3f).toInt64.toUInt64).toInt64))), .second, .val (.int (((a + b) ^^^ c) + d)), .val (.long ((((((a + b) ^^^ c) + d).toInt64 <<< ((40 : Int32) &&& 0x3f).toInt64) ||| ((((((a.toInt64 &&& (4294967295 : Int64)) + (b.toInt64 &&& (4294967295 : Int64))).toUInt64 >>> ((32 : Int32) &&& 0x3f).toInt64.toUInt64).toInt64) + (((((((a.toInt64 &&& (4294967295 : Int64)) + (b.toInt64 &&& (4294967295 : Int64))) &&& (4294967295 : Int64)) ^^^ (c.toInt64 &&& (4294967295 : Int64))) + (d.toInt64 &&& (4294967295 : Int64))).toUInt64 >>> ((32 : Int32) &&& 0x3f).toInt64.toUInt64).toInt64)) <<< ((32 : Int32) &&& 0x3f).toInt64)) ||| ((((a + b) ^^^ c) + d).toInt64 &&& (4294967295 : Int64)))), .second] [(.long ((((((a + b) ^^^ c) + d).toInt64 <<< ((40 : Int32) &&& 0x3f).toInt64) ||| ((((((a.toInt64 &&& (4294967295 : Int64)) + (b.toInt64 &&& (4294967295 : Int64))).toUInt64 >>> ((32 : Int32) &&& 0x3f).toInt64.toUInt64).toInt64) + (((((((a.toInt64 &&& (4294967295 : Int64)) + (b.toInt64 &&& (4294967295 : Int64))) &&& (4294967295 : Int64)) ^^^ (c.toInt64 &&& (4294967295 : Int64))) + (d.toInt64 &&& (4294967295 : Int64))).toUInt64 >>> ((32 : Int32) &&& 0x3f).toInt64.toUInt64).toInt64)) <<< ((32 : Int32) &&& 0x3f).toInt64)) ||| ((((a + b) ^^^ c) + d).toInt64 &&& (4294967295 : Int64)))), (.long ((((own_pk a) + (own_pk b)) ^^^ (own_pk c)) + (own_pk d)))])
  refine Goes.go (fun _ => XS.lcmp S.here B.x rfl (B.d at_197) rfl) ?_
  show Goes _ _ _ _ T (mkF me_ 198 #[.val (.int w), .val (.int a), .val (.int b), .val (.int c), .val (.int d), .val (.ref b1), .val (.int ((w >>> ((24 : Int32) &&& 31)) &&& (255 : Int32))), .val (.int ((w >>> ((16 : Int32) &&& 31)) &&& (255 : Int32))), .val (.int ((w >>> ((8 : Int32) &&& 31)) &&& (255 : Int32))), .val (.int (w &&& (255 : Int32))), .val (.long ((((own_pk a) + (own_pk b)) ^^^ (own_pk c)) + (own_pk d))), .second, .val (.long ((a.toInt64 &&& (4294967295 : Int64)) + (b.toInt64 &&& (4294967295 : Int64)))), .second, .val (.long ((((a.toInt64 &&& (4294967295 : Int64)) + (b.toInt64 &&& (4294967295 : Int64))) &&& (4294967295 : Int64)) ^^^ (c.toInt64 &&& (4294967295 : Int64)))), .second, .val (.long (((((a.toInt64 &&& (4294967295 : Int64)) + (b.toInt64 &&& (4294967295 : Int64))) &&& (4294967295 : Int64)) ^^^ (c.toInt64 &&& (4294967295 : Int64))) + (d.toInt64 &&& (4294967295 : Int64)))), .second, .val (.long (((((a.toInt64 &&& (4294967295 : Int64)) + (b.toInt64 &&& (4294967295 : Int64))).toUInt64 >>> ((32 : Int32) &&& 0x3f).toInt64.toUInt64).toInt64) + (((((((a.toInt64 &&& (4294967295 : Int64)) + (b.toInt64 &&& (4294967295 : Int64))) &&& (4294967295 : Int64)) ^^^ (c.toInt64 &&& (4294967295 : Int64))) + (d.toInt64 &&& (4294967295 : Int64))).toUInt64 >>> ((32 : Int32) &&& 0x3f).toInt64.toUInt64).toInt64))), .second, .val (.int (((a + b) ^^^ c) + d)), .val (.long ((((((a + b) ^^^ c) + d).toInt64 <<< ((40 : Int32) &&& 0x3f).toInt64) ||| ((((((a.toInt64 &&& (4294967295 : Int64)) + (b.toInt64 &&& (4294967295 : Int64))).toUInt64 >>> ((32 : Int32) &&& 0x3f).toInt64.toUInt64).toInt64) + (((((((a.toInt64 &&& (4294967295 : Int64)) + (b.toInt64 &&& (4294967295 : Int64))) &&& (4294967295 : Int64)) ^^^ (c.toInt64 &&& (4294967295 : Int64))) + (d.toInt64 &&& (4294967295 : Int64))).toUInt64 >>> ((32 : Int32) &&& 0x3f).toInt64.toUInt64).toInt64)) <<< ((32 : Int32) &&& 0x3f).toInt64)) ||| ((((a + b) ^^^ c) + d).toInt64 &&& (4294967295 : Int64)))), .second] [(.int (lcmpW ((((own_pk a) + (own_pk b)) ^^^ (own_pk c)) + (own_pk d)) ((((((a + b) ^^^ c) + d).toInt64 <<< ((40 : Int32) &&& 0x3f).toInt64) ||| ((((((a.toInt64 &&& (4294967295 : Int64)) + (b.toInt64 &&& (4294967295 : Int64))).toUInt64 >>> ((32 : Int32) &&& 0x3f).toInt64.toUInt64).toInt64) + (((((((a.toInt64 &&& (4294967295 : Int64)) + (b.toInt64 &&& (4294967295 : Int64))) &&& (4294967295 : Int64)) ^^^ (c.toInt64 &&& (4294967295 : Int64))) + (d.toInt64 &&& (4294967295 : Int64))).toUInt64 >>> ((32 : Int32) &&& 0x3f).toInt64.toUInt64).toInt64)) <<< ((32 : Int32) &&& 0x3f).toInt64)) ||| ((((a + b) ^^^ c) + d).toInt64 &&& (4294967295 : Int64)))))])
  refine Goes.go (fun _ => XS.ifNo S.here B.x rfl (B.d at_198) rfl ((if0 _ _).trans (teq ((lw_eq ((((own_pk a) + (own_pk b)) ^^^ (own_pk c)) + (own_pk d)) ((((((a + b) ^^^ c) + d).toInt64 <<< ((40 : Int32) &&& 0x3f).toInt64) ||| ((((((a.toInt64 &&& (4294967295 : Int64)) + (b.toInt64 &&& (4294967295 : Int64))).toUInt64 >>> ((32 : Int32) &&& 0x3f).toInt64.toUInt64).toInt64) + (((((((a.toInt64 &&& (4294967295 : Int64)) + (b.toInt64 &&& (4294967295 : Int64))) &&& (4294967295 : Int64)) ^^^ (c.toInt64 &&& (4294967295 : Int64))) + (d.toInt64 &&& (4294967295 : Int64))).toUInt64 >>> ((32 : Int32) &&& 0x3f).toInt64.toUInt64).toInt64)) <<< ((32 : Int32) &&& 0x3f).toInt64)) ||| ((((a + b) ^^^ c) + d).toInt64 &&& (4294967295 : Int64)))).mpr (show ((((own_pk a) + (own_pk b)) ^^^ (own_pk c)) + (own_pk d)) = ((((((a + b) ^^^ c) + d).toInt64 <<< ((40 : Int32) &&& 0x3f).toInt64) ||| ((((((a.toInt64 &&& (4294967295 : Int64)) + (b.toInt64 &&& (4294967295 : Int64))).toUInt64 >>> ((32 : Int32) &&& 0x3f).toInt64.toUInt64).toInt64) + (((((((a.toInt64 &&& (4294967295 : Int64)) + (b.toInt64 &&& (4294967295 : Int64))) &&& (4294967295 : Int64)) ^^^ (c.toInt64 &&& (4294967295 : Int64))) + (d.toInt64 &&& (4294967295 : Int64))).toUInt64 >>> ((32 : Int32) &&& 0x3f).toInt64.toUInt64).toInt64)) <<< ((32 : Int32) &&& 0x3f).toInt64)) ||| ((((a + b) ^^^ c) + d).toInt64 &&& (4294967295 : Int64))) from own_main a b c d))).2)) ?_
  show Goes _ _ _ _ T (mkF me_ 201 #[.val (.int w), .val (.int a), .val (.int b), .val (.int c), .val (.int d), .val (.ref b1), .val (.int ((w >>> ((24 : Int32) &&& 31)) &&& (255 : Int32))), .val (.int ((w >>> ((16 : Int32) &&& 31)) &&& (255 : Int32))), .val (.int ((w >>> ((8 : Int32) &&& 31)) &&& (255 : Int32))), .val (.int (w &&& (255 : Int32))), .val (.long ((((own_pk a) + (own_pk b)) ^^^ (own_pk c)) + (own_pk d))), .second, .val (.long ((a.toInt64 &&& (4294967295 : Int64)) + (b.toInt64 &&& (4294967295 : Int64)))), .second, .val (.long ((((a.toInt64 &&& (4294967295 : Int64)) + (b.toInt64 &&& (4294967295 : Int64))) &&& (4294967295 : Int64)) ^^^ (c.toInt64 &&& (4294967295 : Int64)))), .second, .val (.long (((((a.toInt64 &&& (4294967295 : Int64)) + (b.toInt64 &&& (4294967295 : Int64))) &&& (4294967295 : Int64)) ^^^ (c.toInt64 &&& (4294967295 : Int64))) + (d.toInt64 &&& (4294967295 : Int64)))), .second, .val (.long (((((a.toInt64 &&& (4294967295 : Int64)) + (b.toInt64 &&& (4294967295 : Int64))).toUInt64 >>> ((32 : Int32) &&& 0x3f).toInt64.toUInt64).toInt64) + (((((((a.toInt64 &&& (4294967295 : Int64)) + (b.toInt64 &&& (4294967295 : Int64))) &&& (4294967295 : Int64)) ^^^ (c.toInt64 &&& (4294967295 : Int64))) + (d.toInt64 &&& (4294967295 : Int64))).toUInt64 >>> ((32 : Int32) &&& 0x3f).toInt64.toUInt64).toInt64))), .second, .val (.int (((a + b) ^^^ c) + d)), .val (.long ((((((a + b) ^^^ c) + d).toInt64 <<< ((40 : Int32) &&& 0x3f).toInt64) ||| ((((((a.toInt64 &&& (4294967295 : Int64)) + (b.toInt64 &&& (4294967295 : Int64))).toUInt64 >>> ((32 : Int32) &&& 0x3f).toInt64.toUInt64).toInt64) + (((((((a.toInt64 &&& (4294967295 : Int64)) + (b.toInt64 &&& (4294967295 : Int64))) &&& (4294967295 : Int64)) ^^^ (c.toInt64 &&& (4294967295 : Int64))) + (d.toInt64 &&& (4294967295 : Int64))).toUInt64 >>> ((32 : Int32) &&& 0x3f).toInt64.toUInt64).toInt64)) <<< ((32 : Int32) &&& 0x3f).toInt64)) ||| ((((a + b) ^^^ c) + d).toInt64 &&& (4294967295 : Int64)))), .second] [])
  refine Goes.go (fun _ => XS.iconst S.here B.x rfl (B.d at_201)) ?_
  show Goes _ _ _ _ T (mkF me_ 202 #[.val (.int w), .val (.int a), .val (.int b), .val (.int c), .val (.int d), .val (.ref b1), .val (.int ((w >>> ((24 : Int32) &&& 31)) &&& (255 : Int32))), .val (.int ((w >>> ((16 : Int32) &&& 31)) &&& (255 : Int32))), .val (.int ((w >>> ((8 : Int32) &&& 31)) &&& (255 : Int32))), .val (.int (w &&& (255 : Int32))), .val (.long ((((own_pk a) + (own_pk b)) ^^^ (own_pk c)) + (own_pk d))), .second, .val (.long ((a.toInt64 &&& (4294967295 : Int64)) + (b.toInt64 &&& (4294967295 : Int64)))), .second, .val (.long ((((a.toInt64 &&& (4294967295 : Int64)) + (b.toInt64 &&& (4294967295 : Int64))) &&& (4294967295 : Int64)) ^^^ (c.toInt64 &&& (4294967295 : Int64)))), .second, .val (.long (((((a.toInt64 &&& (4294967295 : Int64)) + (b.toInt64 &&& (4294967295 : Int64))) &&& (4294967295 : Int64)) ^^^ (c.toInt64 &&& (4294967295 : Int64))) + (d.toInt64 &&& (4294967295 : Int64)))), .second, .val (.long (((((a.toInt64 &&& (4294967295 : Int64)) + (b.toInt64 &&& (4294967295 : Int64))).toUInt64 >>> ((32 : Int32) &&& 0x3f).toInt64.toUInt64).toInt64) + (((((((a.toInt64 &&& (4294967295 : Int64)) + (b.toInt64 &&& (4294967295 : Int64))) &&& (4294967295 : Int64)) ^^^ (c.toInt64 &&& (4294967295 : Int64))) + (d.toInt64 &&& (4294967295 : Int64))).toUInt64 >>> ((32 : Int32) &&& 0x3f).toInt64.toUInt64).toInt64))), .second, .val (.int (((a + b) ^^^ c) + d)), .val (.long ((((((a + b) ^^^ c) + d).toInt64 <<< ((40 : Int32) &&& 0x3f).toInt64) ||| ((((((a.toInt64 &&& (4294967295 : Int64)) + (b.toInt64 &&& (4294967295 : Int64))).toUInt64 >>> ((32 : Int32) &&& 0x3f).toInt64.toUInt64).toInt64) + (((((((a.toInt64 &&& (4294967295 : Int64)) + (b.toInt64 &&& (4294967295 : Int64))) &&& (4294967295 : Int64)) ^^^ (c.toInt64 &&& (4294967295 : Int64))) + (d.toInt64 &&& (4294967295 : Int64))).toUInt64 >>> ((32 : Int32) &&& 0x3f).toInt64.toUInt64).toInt64)) <<< ((32 : Int32) &&& 0x3f).toInt64)) ||| ((((a + b) ^^^ c) + d).toInt64 &&& (4294967295 : Int64)))), .second] [(.int (1 : Int32))])
  refine Goes.go (fun _ => XS.goto S.here B.x rfl (pc0 := 202) (pc' := 206) rfl (B.d at_202) (by decide) (by decide)) ?_
  show Goes _ _ _ _ T (mkF me_ 206 #[.val (.int w), .val (.int a), .val (.int b), .val (.int c), .val (.int d), .val (.ref b1), .val (.int ((w >>> ((24 : Int32) &&& 31)) &&& (255 : Int32))), .val (.int ((w >>> ((16 : Int32) &&& 31)) &&& (255 : Int32))), .val (.int ((w >>> ((8 : Int32) &&& 31)) &&& (255 : Int32))), .val (.int (w &&& (255 : Int32))), .val (.long ((((own_pk a) + (own_pk b)) ^^^ (own_pk c)) + (own_pk d))), .second, .val (.long ((a.toInt64 &&& (4294967295 : Int64)) + (b.toInt64 &&& (4294967295 : Int64)))), .second, .val (.long ((((a.toInt64 &&& (4294967295 : Int64)) + (b.toInt64 &&& (4294967295 : Int64))) &&& (4294967295 : Int64)) ^^^ (c.toInt64 &&& (4294967295 : Int64)))), .second, .val (.long (((((a.toInt64 &&& (4294967295 : Int64)) + (b.toInt64 &&& (4294967295 : Int64))) &&& (4294967295 : Int64)) ^^^ (c.toInt64 &&& (4294967295 : Int64))) + (d.toInt64 &&& (4294967295 : Int64)))), .second, .val (.long (((((a.toInt64 &&& (4294967295 : Int64)) + (b.toInt64 &&& (4294967295 : Int64))).toUInt64 >>> ((32 : Int32) &&& 0x3f).toInt64.toUInt64).toInt64) + (((((((a.toInt64 &&& (4294967295 : Int64)) + (b.toInt64 &&& (4294967295 : Int64))) &&& (4294967295 : Int64)) ^^^ (c.toInt64 &&& (4294967295 : Int64))) + (d.toInt64 &&& (4294967295 : Int64))).toUInt64 >>> ((32 : Int32) &&& 0x3f).toInt64.toUInt64).toInt64))), .second, .val (.int (((a + b) ^^^ c) + d)), .val (.long ((((((a + b) ^^^ c) + d).toInt64 <<< ((40 : Int32) &&& 0x3f).toInt64) ||| ((((((a.toInt64 &&& (4294967295 : Int64)) + (b.toInt64 &&& (4294967295 : Int64))).toUInt64 >>> ((32 : Int32) &&& 0x3f).toInt64.toUInt64).toInt64) + (((((((a.toInt64 &&& (4294967295 : Int64)) + (b.toInt64 &&& (4294967295 : Int64))) &&& (4294967295 : Int64)) ^^^ (c.toInt64 &&& (4294967295 : Int64))) + (d.toInt64 &&& (4294967295 : Int64))).toUInt64 >>> ((32 : Int32) &&& 0x3f).toInt64.toUInt64).toInt64)) <<< ((32 : Int32) &&& 0x3f).toInt64)) ||| ((((a + b) ^^^ c) + d).toInt64 &&& (4294967295 : Int64)))), .second] [(.int (1 : Int32))])
  refine Goes.retN S B (by simp) at_206 (by decide) (by decide) ?_
  exact rfl
set_option maxRecDepth 65536 in
set_option maxHeartbeats 40000000 in
theorem comes_1 {Post : Tables → Env → Array Value → State → Outcome → State → Prop} (hpost : ∀ tb e args s v u, (limb_1_1.after args s (.returned v) u = true ∧ limb_1_2.after args s (.returned v) u = true ∧ True) → FrameEnd s (.returned v) u (Jvm.fieldLocs frame_1_writes args s ++ Jvm.arrayLocs frame_1_arrays args s ++ Jvm.staticLocs frame_1_statics s) 16 2176 → Post tb e args s (.returned v) u) :
    ArmFor flags0 classFile x code maxLocals ret World_1 tables_1 room_1 Calls_1 rest_1 Pre_1 Post := by
  intro l hfl _ _ p e ha hc hk s m args below hf hA hF happ hP
  obtain ⟨hcalls, hrest, hpre⟩ := hP
  obtain ⟨-, -, -, hnamed, -, -, -, hat⟩ := (Spec.applies_iff hf).mp happ
  obtain ⟨hg, hn⟩ := and_e (Cond.before_iff.mp (show (Jvm.Cond.and given_1 narrow_1).before args s = true from hpre))
  obtain ⟨g0, k0⟩ := and_e hg
  obtain ⟨g1, k1⟩ := and_e k0
  obtain ⟨g2, k2⟩ := and_e k1
  obtain ⟨g3, k3⟩ := and_e k2
  obtain ⟨g4, k4⟩ := and_e k3
  have g5 := k4
  obtain ⟨w0, w1, w2, w3, w4, rfl⟩ : ∃ w0 w1 w2 w3 w4 : Value, args = #[w0, w1, w2, w3, w4] := by
    have hs : args.size = 5 := by simpa [Cond.value, given_1] using g0
    obtain ⟨L⟩ := args
    match L, hs with
    | [w0, w1, w2, w3, w4], _ => exact ⟨w0, w1, w2, w3, w4, rfl⟩
  have hw := fun d (hd : d ∈ tables_1) => atoms_spec (ws := Jvm.Cond.code x code maxLocals ret :: tables_1) hat d (List.mem_cons_of_mem _ hd)
  obtain ⟨i0, ei0⟩ := is_v g1
  obtain rfl : w0 = (.int i0) := Option.some.inj ei0
  obtain ⟨i1, ei1⟩ := is_v g2
  obtain rfl : w1 = (.int i1) := Option.some.inj ei1
  obtain ⟨i2, ei2⟩ := is_v g3
  obtain rfl : w2 = (.int i2) := Option.some.inj ei2
  obtain ⟨i3, ei3⟩ := is_v g4
  obtain rfl : w3 = (.int i3) := Option.some.inj ei3
  obtain ⟨i4, ei4⟩ := is_v g5
  obtain rfl : w4 = (.int i4) := Option.some.inj ei4
  obtain ⟨n, o, h1, h2, h3, _, L, rfl, ⟨N, rfl⟩, hq⟩ := rm0 l s _ hw i0 i1 i2 i3 i4 s.heap s.heap.size (Nat.le_refl _) tables_1 p e ha hc hk s m _ below hf ((Spec.applies_iff_loose hf).mp happ).1 ⟨rfl, State.Warmed39.refl s, rfl⟩ trivial
  refine ⟨n, _, h1, h2, h3, hpost _ _ _ _ _ _ ⟨Cond.after_iff.mpr rfl, Cond.after_iff.mpr (eq_i res_at (Term.int_eval (1)) rfl), trivial⟩ ⟨hq.1, hq.2.1, (hq.2.2.sift fun y hy => Or.inr (N y hy)).mono (by decide) (by decide)⟩⟩
theorem main_1_1 : Claimed_1_1 := comes_1 fun _ _ _ _ _ _ h hF => ⟨h.1, hF⟩
theorem main_1_2 : Claimed_1_2 := comes_1 fun _ _ _ _ _ _ h hF => ⟨h.2.1, hF⟩
end Jvm.Pilot.@@N@@
namespace Jvm.Pilot.@@N@@
open Jvm Jvm.ClassFile Sem Op Lib Jvm.Free Jvm.Stand Jvm.Pilot.@@N@@.Jvm.D
/-! MADE BY PROGRAM (witnessworld.py) out of the Statement's table words and the real class files: 11 classes; the members and pool entries that the words name. The judged class is class 1, her method 2. -/
namespace start1
open Jvm.ClassFile
def u (s : String) : CpInfo := .utf8 (stringToUtf16 s)
/-- a pool by its gaps: so many unusable entries, then the entry; so many at the end -/
def gap : Nat → List CpInfo → List CpInfo
  | 0, r => r
  | n + 1, r => .unusable :: gap n r
def poolList (es : List (Nat × CpInfo)) (last : Nat) : List CpInfo := es.foldr (fun e r => gap e.1 (e.2 :: r)) (gap last [])
def pool (es : List (Nat × CpInfo)) (last : Nat) : Array CpInfo := ⟨poolList es last⟩
def fileOf (pool : Array CpInfo) (this : Nat) (attrs : Array Attribute := #[]) (ms : Array MethodInfo := #[]) (fl : Nat := 33) (sup : Nat := 0) (ifs : Array Nat := #[]) (fds : Array FieldInfo := #[]) : ClassFile where
  minorVersion := 0
  majorVersion := 65
  constantPool := pool
  accessFlags := fl
  thisClass := this
  superClass := sup
  interfaces := ifs
  fields := fds
  methods := ms
  attributes := attrs
def plain (name : String) (sup : Option ClassId) : Class where
  name := name
  kind := .ordinary
  loader := none
  accessFlags := 33
  super := sup
  interfaces := #[]
  cf := none
  fields := #[]
  methods := #[]
  instanceTypes := #[]
  staticTypes := #[]
  resolved := #[]
  callSites := []
  init := .initialized
  statics := none
  mirror := none

def pool0 : Array CpInfo := pool [(5, u "<init>"), (0, u "()V"), (1, .class_ 10), (1, u "java/lang/Object")] 113

def k0m0 : Method := { name := "<init>", desc := "()V", sig := { parameters := [], returnType := none }, accessFlags := 1, code := none }
/-- java/lang/Object -/
def k0 : Class := { plain "java/lang/Object" none with
  accessFlags := 33
  interfaces := #[]
  cf := some (fileOf pool0 8 #[] #[{ accessFlags := 1, nameIndex := 5, descriptorIndex := 6, attributes := #[] }] 33 0 #[] #[])
  fields := #[]
  methods := #[k0m0]
  instanceTypes := #[]
  staticTypes := #[]
  resolved := Array.replicate 124 none
  statics := none }

def pool1 : Array CpInfo := pool [(2, .class_ 4), (1, u "java/lang/Object"), (0, u "<init>"), (0, u "()V"), (0, .long 4294967295), (1, .methodref 10 11), (0, .class_ 12), (0, .nameAndType 13 14), (0, u "com/example/orphean/orphean/BlowfishFPinLaw"), (0, u "packed"), (0, u "(I)J"), (0, .methodref 16 17), (0, .class_ 18), (0, .nameAndType 19 20), (0, u "com/example/orphean/orphean/Blowfish"), (0, u "f"), (0, u "([JII)J"), (2, u "law"), (0, u "(IIIII)Z")] 5

def k1m0 : Method := { name := "<init>", desc := "()V", sig := { parameters := [], returnType := none }, accessFlags := 2, code := none }
def k1c1 : Code := { maxStack := 6, maxLocals := 1, code := method_2_code, exceptionTable := #[], attributes := #[] }
def k1m1 : Method := { name := "packed", desc := "(I)J", sig := { parameters := [.int], returnType := some .long }, accessFlags := 10, code := some k1c1 }
def k1c2 : Code := { maxStack := 6, maxLocals := 23, code := code, exceptionTable := #[], attributes := #[] }
def k1m2 : Method := { name := "law", desc := "(IIIII)Z", sig := { parameters := [.int, .int, .int, .int, .int], returnType := some .boolean }, accessFlags := 9, code := some k1c2 }
/-- com/example/orphean/orphean/BlowfishFPinLaw -/
def k1 : Class := { plain "com/example/orphean/orphean/BlowfishFPinLaw" (some 0) with
  accessFlags := 49
  interfaces := #[]
  cf := some (fileOf pool1 10 #[] #[{ accessFlags := 2, nameIndex := 5, descriptorIndex := 6, attributes := #[] }, { accessFlags := 10, nameIndex := 13, descriptorIndex := 14, attributes := #[] }, { accessFlags := 9, nameIndex := 23, descriptorIndex := 24, attributes := #[] }] 49 2 #[] #[])
  fields := #[]
  methods := #[k1m0, k1m1, k1m2]
  instanceTypes := #[]
  staticTypes := #[]
  resolved := Array.replicate 30 none
  statics := none }

def pool2 : Array CpInfo := pool [(3, .class_ 4), (0, u "com/example/orphean/orphean/Blowfish"), (1, .class_ 8), (1, u "java/lang/Object"), (0, u "<init>"), (0, u "()V"), (4, u "INITIAL_STATE"), (0, u "[J"), (20, u "f"), (0, u "([JII)J"), (4, u "KEY_WORDS"), (0, u "I"), (2, u "STATE_WORDS"), (1, u "BLOCK_WORDS"), (1, u "ROUNDS"), (1, u "NO_CARRIES"), (0, u "J"), (2, u "S0"), (0, u "S1"), (1, u "S2"), (1, u "S3")] 19

def k2m0 : Method := { name := "<init>", desc := "()V", sig := { parameters := [], returnType := none }, accessFlags := 2, code := none }
def k2c1 : Code := { maxStack := 6, maxLocals := 3, code := prog_9_method_8_code, exceptionTable := #[], attributes := #[] }
def k2m1 : Method := { name := "f", desc := "([JII)J", sig := { parameters := [(.array .long), .int, .int], returnType := some .long }, accessFlags := 8, code := some k2c1 }
/-- com/example/orphean/orphean/Blowfish -/
def k2 : Class := { plain "com/example/orphean/orphean/Blowfish" (some 0) with
  accessFlags := 48
  interfaces := #[]
  cf := some (fileOf pool2 3 #[] #[{ accessFlags := 2, nameIndex := 9, descriptorIndex := 10, attributes := #[] }, { accessFlags := 8, nameIndex := 37, descriptorIndex := 38, attributes := #[] }] 48 6 #[] #[{ accessFlags := 24, nameIndex := 43, descriptorIndex := 44, attributes := #[] }, { accessFlags := 24, nameIndex := 47, descriptorIndex := 44, attributes := #[] }, { accessFlags := 24, nameIndex := 49, descriptorIndex := 44, attributes := #[] }, { accessFlags := 24, nameIndex := 51, descriptorIndex := 44, attributes := #[] }, { accessFlags := 24, nameIndex := 53, descriptorIndex := 54, attributes := #[] }, { accessFlags := 26, nameIndex := 57, descriptorIndex := 44, attributes := #[] }, { accessFlags := 26, nameIndex := 58, descriptorIndex := 44, attributes := #[] }, { accessFlags := 26, nameIndex := 60, descriptorIndex := 44, attributes := #[] }, { accessFlags := 26, nameIndex := 62, descriptorIndex := 44, attributes := #[] }, { accessFlags := 26, nameIndex := 15, descriptorIndex := 16, attributes := #[] }])
  fields := #[{ name := "KEY_WORDS", type := .int, accessFlags := 24, slot := 0, constantValue := 0 }, { name := "STATE_WORDS", type := .int, accessFlags := 24, slot := 1, constantValue := 0 }, { name := "BLOCK_WORDS", type := .int, accessFlags := 24, slot := 2, constantValue := 0 }, { name := "ROUNDS", type := .int, accessFlags := 24, slot := 3, constantValue := 0 }, { name := "NO_CARRIES", type := .long, accessFlags := 24, slot := 4, constantValue := 0 }, { name := "S0", type := .int, accessFlags := 26, slot := 5, constantValue := 0 }, { name := "S1", type := .int, accessFlags := 26, slot := 6, constantValue := 0 }, { name := "S2", type := .int, accessFlags := 26, slot := 7, constantValue := 0 }, { name := "S3", type := .int, accessFlags := 26, slot := 8, constantValue := 0 }, { name := "INITIAL_STATE", type := (.array .long), accessFlags := 26, slot := 9, constantValue := 0 }]
  methods := #[k2m0, k2m1]
  instanceTypes := #[]
  staticTypes := #[.int, .int, .int, .int, .long, .int, .int, .int, .int, (.array .long)]
  resolved := Array.replicate 82 none
  statics := none }

def pool3 : Array CpInfo := pool [(1, u "java/lang/Cloneable"), (0, .class_ 1), (0, u "java/lang/Object"), (0, .class_ 3)] 3

/-- java/lang/Cloneable -/
def k3 : Class := { plain "java/lang/Cloneable" (some 0) with
  accessFlags := 1537
  interfaces := #[]
  cf := some (fileOf pool3 2 #[] #[] 1537 4 #[] #[])
  fields := #[]
  methods := #[]
  instanceTypes := #[]
  staticTypes := #[]
  resolved := Array.replicate 8 none
  statics := none }

def pool4 : Array CpInfo := pool [(1, u "java/io/Serializable"), (0, .class_ 1), (0, u "java/lang/Object"), (0, .class_ 3)] 3

/-- java/io/Serializable -/
def k4 : Class := { plain "java/io/Serializable" (some 0) with
  accessFlags := 1537
  interfaces := #[]
  cf := some (fileOf pool4 2 #[] #[] 1537 4 #[] #[])
  fields := #[]
  methods := #[]
  instanceTypes := #[]
  staticTypes := #[]
  resolved := Array.replicate 8 none
  statics := none }

/-- the primitive byte -/
def k5 : Class := { plain "byte" none with kind := .primitive 'B', accessFlags := 0x411 }
/-- [B -/
def k6 : Class := { plain "[B" (some 0) with kind := .array 5 .byte, interfaces := #[3, 4], accessFlags := 1041 }

/-- the primitive int -/
def k7 : Class := { plain "int" none with kind := .primitive 'I', accessFlags := 0x411 }
/-- [I -/
def k8 : Class := { plain "[I" (some 0) with kind := .array 7 .int, interfaces := #[3, 4], accessFlags := 1041 }

/-- the primitive long -/
def k9 : Class := { plain "long" none with kind := .primitive 'J', accessFlags := 0x411 }
/-- [J -/
def k10 : Class := { plain "[J" (some 0) with kind := .array 9 .long, interfaces := #[3, 4], accessFlags := 1041 }

def heap : Heap := #[]
def classes : Array Class := #[k0, k1, k2, k3, k4, k5, k6, k7, k8, k9, k10]
def interned : List (Array UInt16 × Addr) := []
def slotsUsed : Nat := 0
def theMethod : MethodId := ⟨1, 2⟩
def args0 : Array Value := #[.int 5, .int 5, .int 5, .int 5, .int 5]
def aboutOver (below : List Frame) : State where
  vm := { classes := classes, interned := interned.toArray }
  heap := heap
  slotsUsed := slotsUsed
  threads := #[{ frames := .invoking theMethod args0 :: below }]
def below0 : List Frame := [.native { method := ⟨0, 0⟩, args := #[] }]
def about1 : State := aboutOver below0
def p0 : Program := .bare "" "" ""
def e0 : Env := launch0.env 0 0 0
theorem w_frames : about1.frames = Frame.invoking theMethod args0 :: below0 := rfl
set_option maxRecDepth 65536 in
theorem w_args : argsFit about1.vm theMethod args0 = true := by decide +kernel
set_option maxRecDepth 65536 in
theorem w_heap : heapFits about1 = true := by decide +kernel
set_option maxRecDepth 65536 in
theorem w_runnable : about1.curStatus? = some .runnable := by decide +kernel
set_option maxRecDepth 65536 in
theorem w_alone : about1.alone = true := by decide +kernel
set_option maxRecDepth 65536 in
theorem w_named : about1.methodNamed? x = some theMethod := by decide +kernel
set_option maxRecDepth 65536 in
theorem w_hears : about1.hears theMethod below0 = true := by decide +kernel
set_option maxRecDepth 65536 in
theorem w_ripe : about1.ripe theMethod args0 below0 = true := by decide +kernel
theorem w_running : about1.status = .running := rfl
set_option maxRecDepth 65536 in
theorem w_room : about1.hasRoom e0.platform room_1 = true :=
  launch0.hasRoom_least _ room_1 (by decide +kernel) (by decide +kernel) (by decide +kernel) (by decide +kernel) (by decide +kernel) (by decide +kernel)
theorem allAtoms_all (ts : List Jvm.Cond) (a : Array Jvm.Value) (st : Jvm.State) : (allAtoms ts).before a st = ts.all (fun c => c.before a st) := by
  induction ts with
  | nil => rfl
  | cons c t ih =>
    show (Jvm.Cond.and c (allAtoms t)).before a st = _
    rw [Jvm.Cond.before_and, ih, List.all_cons]
def words1 : List Jvm.Cond := Jvm.Cond.code x code maxLocals ret :: tables_1
/-- a 'code' word, met by the world's own term for the bytes: nothing is compared byte by byte -/
theorem code_word {y : MethodName} {bytes : ByteArray} {mx : Nat} {rt : Option FieldType} {a : Array Value} {s : State} {m : MethodId} {meth : Method} {c : Code} (h1 : s.methodNamed? y = some m) (h2 : s.vm.method? m = some meth) (h3 : meth.code = some c) (h4 : c.code = bytes)
    (h5 : (c.maxLocals == mx && c.exceptionTable.isEmpty && decide (c.maxStack ≤ mostOperands) && decide (meth.sig.returnType = rt) && !meth.locks && decide (parseMethodDescriptor y.desc = some meth.sig)) = true) : (Jvm.Cond.code y bytes mx rt).before a s = true := by
  simp only [Bool.and_eq_true, beq_iff_eq, Bool.not_eq_true', decide_eq_true_eq] at h5
  obtain ⟨⟨⟨⟨⟨g1, g2⟩, g3⟩, g4⟩, g5⟩, g6⟩ := h5
  simp [Cond.before, Cond.holds, Cond.value, h1, h2, h3, h4, g1, g2, g3, g4, g5, g6]
def isCode : Jvm.Cond → Bool
  | .code _ _ _ _ => true
  | _ => false
theorem all_split {L : List Jvm.Cond} {P : Jvm.Cond → Bool} (h1 : L.all (fun c => isCode c || P c) = true) (h2 : ∀ c ∈ L.filter isCode, P c = true) : L.all P = true := by
  refine List.all_eq_true.mpr fun c hc => ?_
  have h := List.all_eq_true.mp h1 c hc
  rcases Bool.eq_false_or_eq_true (isCode c) with hi | hi
  · exact h2 c (List.mem_filter.mpr ⟨hc, hi⟩)
  · simpa [hi] using h
set_option maxRecDepth 65536 in
theorem w_c0 : (Jvm.Cond.code x code maxLocals ret).before args0 about1 = true := code_word (m := ⟨1, 2⟩) (meth := k1m2) (c := k1c2) (by decide +kernel) rfl rfl rfl (by decide +kernel)
set_option maxRecDepth 65536 in
theorem w_c1 : (Jvm.Cond.code ({ cls := "com/example/orphean/orphean/BlowfishFPinLaw", name := "packed", desc := "(I)J" } : Jvm.MethodName) method_2_code (1 : Nat) (Option.some Jvm.ClassFile.FieldType.long)).before args0 about1 = true := code_word (m := ⟨1, 1⟩) (meth := k1m1) (c := k1c1) (by decide +kernel) rfl rfl rfl (by decide +kernel)
set_option maxRecDepth 65536 in
theorem w_c2 : (Jvm.Cond.code ({ cls := "com/example/orphean/orphean/Blowfish", name := "f", desc := "([JII)J" } : Jvm.MethodName) prog_9_method_8_code (3 : Nat) (Option.some Jvm.ClassFile.FieldType.long)).before args0 about1 = true := code_word (m := ⟨2, 1⟩) (meth := k2m1) (c := k2c1) (by decide +kernel) rfl rfl rfl (by decide +kernel)
def codes1 : List Jvm.Cond := [Jvm.Cond.code x code maxLocals ret, Jvm.Cond.code ({ cls := "com/example/orphean/orphean/BlowfishFPinLaw", name := "packed", desc := "(I)J" } : Jvm.MethodName) method_2_code (1 : Nat) (Option.some Jvm.ClassFile.FieldType.long), Jvm.Cond.code ({ cls := "com/example/orphean/orphean/Blowfish", name := "f", desc := "([JII)J" } : Jvm.MethodName) prog_9_method_8_code (3 : Nat) (Option.some Jvm.ClassFile.FieldType.long)]
set_option maxRecDepth 65536 in
theorem codes_eq : words1.filter isCode = codes1 := rfl
theorem w_codes : ∀ c ∈ words1.filter isCode, c.before args0 about1 = true := by
  rw [codes_eq]
  intro c hc
  simp only [codes1, List.mem_cons, List.not_mem_nil, or_false] at hc
  rcases hc with rfl | rfl | rfl
  · exact w_c0
  · exact w_c1
  · exact w_c2
set_option maxRecDepth 65536 in
theorem w_t1 : words1.all (fun c => isCode c || c.before args0 about1) = true := by decide +kernel
theorem w_tables : (allAtoms (Jvm.Cond.code x code maxLocals ret :: tables_1)).before args0 about1 = true := by
  rw [allAtoms_all]
  show words1.all (fun c => c.before args0 about1) = true
  refine all_split ?_ w_codes
  rw [w_t1]
set_option maxRecDepth 65536 in
theorem w_case : (Jvm.Cond.and given_1 narrow_1).before args0 about1 = true := by decide +kernel
theorem w_applies : (headSpec (Jvm.Cond.code x code maxLocals ret :: tables_1) room_1).applies x e0.platform about1 = true :=
  (Spec.applies_iff w_frames).mpr ⟨w_running, w_runnable, w_alone, w_named, w_hears, w_ripe, w_room, w_tables⟩
theorem atStart : AtStart classFile x code maxLocals ret World_1 tables_1 room_1 Calls_1 rest_1 Pre_1 launch0 p0 e0 about1 theMethod args0 below0 :=
  ⟨lists_1, trivial, launch0.admits_env _ _ _, launch0.least_env, fairChoices_fair.cas, fairChoices_fair.clock, w_frames, w_args, w_heap, w_applies, trivial, trivial, w_case⟩
end start1
theorem witness_1 : WitnessClaimed_1 := ⟨start1.p0, start1.e0, start1.about1, start1.theMethod, start1.args0, start1.below0, start1.atStart⟩
end Jvm.Pilot.@@N@@
