import JvmDerived
import JvmDerived.Pilot.@@N@@Statement
import JvmDerived.Pilot.@@N@@Code
set_option linter.unusedVariables false
set_option linter.unusedSimpArgs false
namespace Jvm.OwnKit
open Sem ClassFile Op Lib Jvm.Stand Jvm.Free Jvm.LawKit Jvm.RoadKit
/-! A small layer of my own over the library's laws: 'Goes': from this frame the body comes to its end; each law turned so that it reads backwards. -/
def Goes (tb : Tables) (e : Env) (below : List Frame) (Φ : Outcome → State → Prop) (T : State) (f : JFrame) : Prop :=
  ∃ s₂ o, Steps tb e below (T.setTop f) s₂ ∧ s₂.status = .running ∧ Ended s₂ below o ∧ Φ o s₂
def Fine (s : State) (n0 : Nat) (Q : Option Value → Heap → Prop) (rc rs : Nat) (o : Outcome) (U : State) : Prop :=
  ∃ v L, o = .returned v ∧ (Fr n0 L ∧ Q v U.heap) ∧ FrameEnd s o U L rc rs
def Base (p : Program) (s : State) (m : MethodId) (meth : Method) (c : Code) (Z : State) (y : MethodName) (bytes : ByteArray) (maxL : Nat) (ret : Option FieldType) : Prop :=
  p.tables.exec = Jvm.exec ∧ Z.Warmed39 s.vm ∧ c.code = bytes ∧ c.maxLocals = maxL ∧ s.vm.findClass y.cls = some m.cls ∧ meth.name = y.name ∧ meth.sig.returnType = ret ∧ meth.locks = false
def Sd (p : Program) (l : Launch) (e : Env) (R : Room) (s : State) (m : MethodId) (args : Array Value) (below : List Frame) (meth : Method) (c : Code) (T : State) (h : Heap) (n0 cells slots : Nat) : Prop :=
  ∃ locs, Stand p l e R s m args below meth c T locs cells slots ∧ T.heap = h ∧ Fr n0 locs ∧ n0 ≤ s.heap.size
def Con (l : Launch) (Z : State) (y : MethodName) (bytes : ByteArray) (maxL : Nat) (ret : Option FieldType) (rm : Room) (as' : Array Value) (h0 : Heap) (n0 : Nat) (Q : Option Value → Heap → Prop) : Prop :=
  n0 ≤ h0.size → ∀ ws : List Cond, MetFree l y (head1 (Cond.code y bytes maxL ret :: ws) rm) (fun a U => a = as' ∧ Z.Warmed39 U.vm ∧ U.heap = h0) (fun _ _ _ _ _ => True) (fun _ U o U' => ∃ v L, o = .returned v ∧ (Fr n0 L ∧ Q v U'.heap) ∧ FrameEnd U o U' L rm.cells rm.slots)
/-! a condition as 1 or 0 -/
def bi (P : Prop) [Decidable P] : Int32 := if P then 1 else 0
theorem bi_pos {P : Prop} [Decidable P] (h : P) : bi P = 1 := if_pos h
theorem bi_neg {P : Prop} [Decidable P] (h : ¬ P) : bi P = 0 := if_neg h
theorem bi_ne {P : Prop} [Decidable P] (h : P) : ¬ bi P = 0 := by rw [bi_pos h]; decide
theorem bi_congr {P P' : Prop} [Decidable P] [Decidable P'] (h : P ↔ P') : bi P = bi P' := by by_cases q : P <;> simp [bi, q, h.mp, ← h]
theorem bi_one {P : Prop} [Decidable P] : bi P = 1 ↔ P := by by_cases q : P <;> simp [bi, q]
theorem bi_zero {P : Prop} [Decidable P] : bi P = 0 ↔ ¬ P := by by_cases q : P <;> simp [bi, q]
theorem bi_inj {P P' : Prop} [Decidable P] [Decidable P'] : bi P = bi P' ↔ (P ↔ P') := by by_cases q : P <;> by_cases q' : P' <;> simp [bi, q, q']
theorem bi_or {P : Prop} [Decidable P] : bi P = 0 ∨ bi P = 1 := by by_cases q : P <;> simp [bi, q]
theorem nar_bi {P : Prop} [Decidable P] : nar .boolean (bi P) = bi P := by by_cases q : P <;> simp [bi, q, nar]
theorem fits_bi {P : Prop} [Decidable P] : fits .boolean (.int (bi P)) = true := by by_cases q : P <;> simp [bi, q] <;> decide
theorem narrow_bi {P : Prop} [Decidable P] : narrow .boolean (.int (bi P)) = .int (bi P) := by by_cases q : P <;> simp [bi, q] <;> rfl
section Lay
variable {p : Program} {l : Launch} {e : Env} {R : Room} {s : State} {m : MethodId} {args : Array Value} {below : List Frame} {meth : Method} {c : Code} {T : State} {h : Heap} {n0 cells slots : Nat} {Z : State} {a0 : Array Value} {Φ : Outcome → State → Prop} {y0 : MethodName} {bytes0 : ByteArray} {maxL0 : Nat} {ret0 : Option FieldType} {pc : Nat} {Ls : Array Slot} {st rest : List Value}
theorem Goes.go {tb : Tables} {T' : State} {f f' : JFrame} (k : ∀ t, Steps tb e below (T'.setTop f') t → Steps tb e below (T.setTop f) t) (g : Goes tb e below Φ T' f') : Goes tb e below Φ T f := by
  obtain ⟨s2, o, h1, h2⟩ := g
  exact ⟨s2, o, k _ h1, h2⟩
theorem Goes.dia {tb : Tables} {P : Prop} [Decidable P] {f : JFrame} {mk : Int32 → JFrame} (h1 : P → Goes tb e below Φ T (mk 1) → Goes tb e below Φ T f) (h0 : ¬ P → Goes tb e below Φ T (mk 0) → Goes tb e below Φ T f) (k : Goes tb e below Φ T (mk (bi P))) : Goes tb e below Φ T f := by
  by_cases q : P
  · rw [bi_pos q] at k; exact h1 q k
  · rw [bi_neg q] at k; exact h0 q k
theorem Goes.cast {tb : Tables} {f f' : JFrame} (q : f = f') (g : Goes tb e below Φ T f') : Goes tb e below Φ T f := q ▸ g
theorem Sd.here (S : Sd p l e R s m args below meth c T h n0 cells slots) : At T m c below := by obtain ⟨_, X, -⟩ := S; exact X.here
theorem Sd.le (S : Sd p l e R s m args below meth c T h n0 cells slots) : n0 ≤ h.size := by
  obtain ⟨_, X, e, -, q⟩ := S
  have h1 := X.same.2.1
  have h2 : s.heap.size ≤ T.heap.size := h1
  rw [e] at h2
  exact Nat.le_trans q h2
theorem Base.x (B : Base p s m meth c Z y0 bytes0 maxL0 ret0) : p.tables.exec = Jvm.exec := B.1
theorem Base.d (B : Base p s m meth c Z y0 bytes0 maxL0 ret0) {r : Except DecodeError (Instr × Nat)} (hd : decode bytes0 pc = r) : decode c.code pc = r := B.2.2.1 ▸ hd
theorem Con.body {y : MethodName} {bytes : ByteArray} {maxL : Nat} {ret : Option FieldType} {rm : Room} {as' : Array Value} {h0 : Heap} {Q : Option Value → Heap → Prop} (hpl : plainFor y = true)
    (k : ∀ (p : Program) (e : Env) (s : State) (m : MethodId) (below : List Frame) (meth : Method) (c : Code) (T : State), Base p s m meth c Z y bytes maxL ret → Sd p l e rm s m as' below meth c T h0 n0 0 0 → Goes p.tables e below (Fine s n0 Q rm.cells rm.slots) T (entryFrame m as' maxL)) :
    Con l Z y bytes maxL ret rm as' h0 n0 Q := by
  intro hn ws
  refine MetFree.of_bodySF hpl hisR ?_
  intro p e s m args below meth c s₁ Bd hml0 hP hK
  obtain ⟨rfl, hZ, hh⟩ := hP
  have e0 : s₁.heap = h0 := by rw [← hh, Bd.state]; rfl
  exact k p e s m below meth c s₁ ⟨Bd.exec, hZ, Bd.bytes, hml0, findClass_of_methodNamed Bd.named, (name_of_methodNamed Bd.named Bd.method).1, Bd.returns, Bd.notSynchronized⟩ ⟨[], Stand.of_body Bd, e0, Fr.nil n0, by rw [hh]; exact hn⟩
theorem Goes.acmp {cd : ACond} {x y : Value} {o : Int} {pc' : Nat} {same : Bool} (S : Sd p l e R s m args below meth c T h n0 cells slots) (B : Base p s m meth c Z y0 bytes0 maxL0 ret0) (h1 : x.isRef = true) (h2 : y.isRef = true) (hd : decode bytes0 pc = .ok (.if_acmp cd o, 3)) (hq : decide (x = y) = same) (ho : 0 ≤ (pc : Int) + o) (hp : pc' = if acV cd same = true then ((pc : Int) + o).toNat else pc + 3)
    (k : Goes p.tables e below Φ T (mkF m pc' Ls rest)) : Goes p.tables e below Φ T (mkF m pc Ls (y :: x :: rest)) := by
  obtain ⟨locs, X, eT, N, hn⟩ := S
  exact Goes.go (fun t => RoadKit.acmp X B.1 (g := mkF m pc Ls (y :: x :: rest)) rfl h1 h2 (pc0 := pc) (pc' := pc') (same := same) rfl (B.d hd) rfl hq ho hp) k
theorem Goes.pop2L {z : Int64} (S : Sd p l e R s m args below meth c T h n0 cells slots) (B : Base p s m meth c Z y0 bytes0 maxL0 ret0) (hd : decode bytes0 pc = .ok (.pop2, 1)) (k : Goes p.tables e below Φ T (mkF m (pc + 1) Ls rest)) : Goes p.tables e below Φ T (mkF m pc Ls (.long z :: rest)) := by
  obtain ⟨locs, X, eT, N, hn⟩ := S
  refine Goes.go (fun t kk => ?_) k
  have hx := B.1
  have hd' := B.d hd
  show Steps p.tables e below (T.setTop { method := m, pc := pc, locals := Ls, stack := _ :: rest, locked := none }) _
  jvm_step X.here [X.here.top, hx, hd', Value.category]
  exact kk
theorem Goes.irem {x y : Int32} (S : Sd p l e R s m args below meth c T h n0 cells slots) (B : Base p s m meth c Z y0 bytes0 maxL0 ret0) (hd : decode bytes0 pc = .ok (.irem, 1)) (hy : y ≠ 0) (k : Goes p.tables e below Φ T (mkF m (pc + 1) Ls (.int (x % y) :: rest))) : Goes p.tables e below Φ T (mkF m pc Ls (.int y :: .int x :: rest)) := by
  obtain ⟨locs, X, eT, N, hn⟩ := S
  exact Goes.go (fun t => RoadKit.iremM X B.1 (g := mkF m pc Ls (.int y :: .int x :: rest)) rfl (B.d hd) rfl hy) k
theorem Goes.lrem {x y : Int64} (S : Sd p l e R s m args below meth c T h n0 cells slots) (B : Base p s m meth c Z y0 bytes0 maxL0 ret0) (hd : decode bytes0 pc = .ok (.lrem, 1)) (hy : y ≠ 0) (k : Goes p.tables e below Φ T (mkF m (pc + 1) Ls (.long (x % y) :: rest))) : Goes p.tables e below Φ T (mkF m pc Ls (.long y :: .long x :: rest)) := by
  obtain ⟨locs, X, eT, N, hn⟩ := S
  refine Goes.go (fun t kk => XS.lrem X.here B.1 (g := mkF m pc Ls (.long y :: .long x :: rest)) rfl (B.d hd) rfl hy ?_) k
  rw [lrem_mod]
  exact kk
/-! the ends -/
section Ends
variable {Q : Option Value → Heap → Prop} {rc rs : Nat}
theorem Goes.retV (S : Sd p l e R s m args below meth c T h n0 cells slots) (B : Base p s m meth c Z y0 bytes0 maxL0 none) (hd : decode bytes0 pc = .ok (.return_, 1)) (hc : cells ≤ rc) (hs : slots ≤ rs) (hq : Q none h) :
    Goes p.tables e below (Fine s n0 Q rc rs) T (mkF m pc Ls []) := by
  obtain ⟨locs, X, eT, N, -⟩ := S
  obtain ⟨fs, hr, hrun, hended, hW, hsame⟩ := X.leave (v := none) (fun _ => rfl) B.2.2.2.2.2.2.2
  subst eT
  exact ⟨_, _, X.returnOut B.1 B.2.2.2.2.2.2.1 (B.d hd) hr, hrun, hended, _, _, rfl, ⟨N, hq⟩, ⟨_, rfl⟩, hW, hsame.mono hc hs⟩
theorem Goes.retN {t : FieldType} {z : Int32} (S : Sd p l e R s m args below meth c T h n0 cells slots) (B : Base p s m meth c Z y0 bytes0 maxL0 (some t)) (ht : t = .boolean ∨ t = .byte ∨ t = .char ∨ t = .short) (hd : decode bytes0 pc = .ok (.ireturn, 1)) (hc : cells ≤ rc) (hs : slots ≤ rs) (hq : Q (some (.int (nar t z))) h) :
    Goes p.tables e below (Fine s n0 Q rc rs) T (mkF m pc Ls (.int z :: rest)) := by
  obtain ⟨locs, X, eT, N, -⟩ := S
  obtain ⟨fs, hr, hrun, hended, hW, hsame⟩ := X.leave (v := some (.int (nar t z))) (fun h => by rw [B.2.2.2.2.2.2.1] at h; cases h) B.2.2.2.2.2.2.2
  subst eT
  exact ⟨_, _, RoadKit.retN X B.1 B.2.2.2.2.2.2.1 ht (B.d hd) hr, hrun, hended, _, _, rfl, ⟨N, hq⟩, ⟨_, rfl⟩, hW, hsame.mono hc hs⟩
theorem Goes.retI {z : Int32} (S : Sd p l e R s m args below meth c T h n0 cells slots) (B : Base p s m meth c Z y0 bytes0 maxL0 (some .int)) (hd : decode bytes0 pc = .ok (.ireturn, 1)) (hc : cells ≤ rc) (hs : slots ≤ rs) (hq : Q (some (.int z)) h) :
    Goes p.tables e below (Fine s n0 Q rc rs) T (mkF m pc Ls (.int z :: rest)) := by
  obtain ⟨locs, X, eT, N, -⟩ := S
  obtain ⟨fs, hr, hrun, hended, hW, hsame⟩ := X.leave (v := some (.int z)) (fun h => by rw [B.2.2.2.2.2.2.1] at h; cases h) B.2.2.2.2.2.2.2
  subst eT
  refine ⟨_, _, ?_, hrun, hended, _, _, rfl, ⟨N, hq⟩, ⟨_, rfl⟩, hW, hsame.mono hc hs⟩
  have hm' : T.vm.method? m = some meth := X.method'
  have hn : narrow .int (.int z) = .int z := rfl
  have hx := B.1
  have hret := B.2.2.2.2.2.2.1
  have hd' := B.d hd
  show Steps p.tables e below (T.setTop { method := m, pc := pc, locals := Ls, stack := _ :: rest, locked := none }) _
  jvm_step X.here [X.here.top, hx, hd', hm', hret, hn]
  first | (intro acts; rw [hr _ acts rfl rfl rfl]) | rw [hr _ _ rfl rfl rfl]
  exact Steps.refl _
theorem Goes.retL {z : Int64} (S : Sd p l e R s m args below meth c T h n0 cells slots) (B : Base p s m meth c Z y0 bytes0 maxL0 (some .long)) (hd : decode bytes0 pc = .ok (.lreturn, 1)) (hc : cells ≤ rc) (hs : slots ≤ rs) (hq : Q (some (.long z)) h) :
    Goes p.tables e below (Fine s n0 Q rc rs) T (mkF m pc Ls (.long z :: rest)) := by
  obtain ⟨locs, X, eT, N, -⟩ := S
  obtain ⟨fs, hr, hrun, hended, hW, hsame⟩ := X.leave (v := some (.long z)) (fun h => by rw [B.2.2.2.2.2.2.1] at h; cases h) B.2.2.2.2.2.2.2
  subst eT
  refine ⟨_, _, ?_, hrun, hended, _, _, rfl, ⟨N, hq⟩, ⟨_, rfl⟩, hW, hsame.mono hc hs⟩
  have hm' : T.vm.method? m = some meth := X.method'
  have hx := B.1
  have hret := B.2.2.2.2.2.2.1
  have hd' := B.d hd
  show Steps p.tables e below (T.setTop { method := m, pc := pc, locals := Ls, stack := _ :: rest, locked := none }) _
  jvm_step X.here [X.here.top, hx, hd', hm', hret, narrow]
  first | (intro acts; rw [hr _ acts rfl rfl rfl]) | rw [hr _ _ rfl rfl rfl]
  exact Steps.refl _
theorem Goes.retA {b : Addr} {t : FieldType} (S : Sd p l e R s m args below meth c T h n0 cells slots) (B : Base p s m meth c Z y0 bytes0 maxL0 (some t)) (ht : t.isReference = true) (hd : decode bytes0 pc = .ok (.areturn, 1)) (hc : cells ≤ rc) (hs : slots ≤ rs) (hq : Q (some (.ref b)) h) :
    Goes p.tables e below (Fine s n0 Q rc rs) T (mkF m pc Ls (.ref b :: rest)) := by
  obtain ⟨locs, X, eT, N, -⟩ := S
  obtain ⟨fs, hr, hrun, hended, hW, hsame⟩ := X.leave (v := some (.ref b)) (fun h => by rw [B.2.2.2.2.2.2.1] at h; cases h) B.2.2.2.2.2.2.2
  subst eT
  refine ⟨_, _, ?_, hrun, hended, _, _, rfl, ⟨N, hq⟩, ⟨_, rfl⟩, hW, hsame.mono hc hs⟩
  have hm' : T.vm.method? m = some meth := X.method'
  have hx := B.1
  have hret := B.2.2.2.2.2.2.1
  have hd' := B.d hd
  show Steps p.tables e below (T.setTop { method := m, pc := pc, locals := Ls, stack := _ :: rest, locked := none }) _
  jvm_step X.here [X.here.top, hx, hd', hm', hret, Value.isRef, ht]
  first | (intro acts; rw [hr _ acts rfl rfl rfl]) | rw [hr _ _ rfl rfl rfl]
  exact Steps.refl _
end Ends
/-! fields and objects -/
theorem Goes.getF {O n d : String} {index : Nat} {a : Addr} {v : Value} (S : Sd p l e R s m args below meth c T h n0 cells slots) (B : Base p s m meth c Z y0 bytes0 maxL0 ret0) (w : (Cond.fieldLink y0.cls index O n d).before a0 Z = true) (F : Fld Z h a O n d v) (hd : decode bytes0 pc = .ok (.getfield index, 3))
    (k : ∀ T', Sd p l e R s m args below meth c T' h n0 cells slots → Goes p.tables e below Φ T' (mkF m (pc + 3) Ls (v :: rest))) : Goes p.tables e below Φ T (mkF m pc Ls (.ref a :: rest)) := by
  obtain ⟨locs, X, eT, N, hn⟩ := S
  obtain ⟨T', X', e', stp⟩ := RoadKit.getF X B.1 B.2.1 B.2.2.2.2.1 (host := "") (Or.inl w) Via.refl eT F (g := mkF m pc Ls (.ref a :: rest)) rfl rfl (B.d hd)
  exact Goes.go stp (k T' ⟨locs, X', e', N, hn⟩)
theorem Goes.putF {O n d C : String} {index kk : Nat} {ty : FieldType} {a : Addr} {v v' old : Value} (S : Sd p l e R s m args below meth c T h n0 cells slots) (B : Base p s m meth c Z y0 bytes0 maxL0 ret0) (w : (Cond.fieldLink y0.cls index O n d).before a0 Z = true) (F : Fld Z h a O n d old) (E : Exa Z h a C)
    (L : (Cond.lays C O n d).before a0 Z = true ∨ ((Cond.laysFinal C O n d).before a0 Z = true ∧ y0.cls = O ∧ y0.name = "<init>")) (wi : (Cond.instantiable C kk).before a0 Z = true) (hty : parseFieldDescriptor d = some ty) (hnr : narrow ty v = v') (hf : fits ty v' = true) (ga : n0 ≤ a) (hd : decode bytes0 pc = .ok (.putfield index, 3))
    (k : ∀ T' h', Sd p l e R s m args below meth c T' h' n0 cells slots → Wr h h' a (RoadKit.slotOf Z O n d) v' → Goes p.tables e below Φ T' (mkF m (pc + 3) Ls rest)) : Goes p.tables e below Φ T (mkF m pc Ls (v :: .ref a :: rest)) := by
  obtain ⟨locs, X, eT, N, hn⟩ := S
  obtain ⟨T', h', X', e', W, stp⟩ := RoadKit.putFN X B.1 B.2.1 B.2.2.2.2.1 w Via.refl eT F E (L.imp id fun q => ⟨q.1, q.2.1, B.2.2.2.2.2.1.trans q.2.2⟩) wi hty hnr hf (g := mkF m pc Ls (v :: .ref a :: rest)) rfl rfl (B.d hd)
  exact Goes.go stp (k T' h' ⟨_, X', e', Fr.snoc X' N ga, hn⟩ W)
theorem Goes.newO {C : String} {index nn : Nat} (S : Sd p l e R s m args below meth c T h n0 cells slots) (B : Base p s m meth c Z y0 bytes0 maxL0 ret0) (w : (Cond.classLink y0.cls index C).before a0 Z = true) (wi : (Cond.instantiable C nn).before a0 Z = true) (wz : (Cond.initialized C).before a0 Z = true) (hd : decode bytes0 pc = .ok (.new index, 3)) (hc : cells + 1 ≤ R.cells) (hl : slots + nn ≤ R.slots)
    (k : ∀ T' h' b, Sd p l e R s m args below meth c T' h' n0 (cells + 1) (slots + nn) → Ext h h' → b = h.size → n0 ≤ b → Exa Z h' b C → (∀ {O nm d : String} {ty : FieldType}, Laid Z a0 C O nm d → parseFieldDescriptor d = some ty → Fld Z h' b O nm d (defaultValue ty)) → Goes p.tables e below Φ T' (mkF m (pc + 3) Ls (.ref b :: st))) :
    Goes p.tables e below Φ T (mkF m pc Ls st) := by
  have hle := S.le
  obtain ⟨locs, X, eT, N, hn⟩ := S
  obtain ⟨T', h', X', e', E, A, D, -, stp⟩ := RoadKit.newO X B.1 B.2.1 B.2.2.2.2.1 w wi wz eT (g := mkF m pc Ls st) rfl (B.d hd) hc hl
  exact Goes.go stp (k T' h' h.size ⟨locs, X', e', N, hn⟩ E rfl hle A D)
theorem Goes.initO {index : Nat} {a : Addr} {W : Nat} (S : Sd p l e R s m args below meth c T h n0 cells slots) (B : Base p s m meth c Z y0 bytes0 maxL0 ret0) (w1 : (Cond.methodLink y0.cls index Lib.objectInit).before a0 Z = true) (w2 : (Cond.instanceMethod Lib.objectInit).before a0 Z = true) (w3 : (Cond.code Lib.objectInit ⟨#[0xb1]⟩ 1 none).before a0 Z = true)
    (hd : decode bytes0 pc = .ok (.invokespecial index, 3)) (hsz : Ls.size = maxL0) (hf : 1 ≤ R.frames) (hW : 2 * 0 + (rest.map fun v => v.category).sum ≤ W) (hl : W + 12 ≤ R.locals)
    (k : ∀ T', Sd p l e R s m args below meth c T' h n0 cells slots → Goes p.tables e below Φ T' (mkF m (pc + 3) Ls rest)) : Goes p.tables e below Φ T (mkF m pc Ls (.ref a :: rest)) := by
  obtain ⟨locs, X, eT, N, hn⟩ := S
  obtain ⟨T', X', e', stp⟩ := RoadKit.initO X B.1 B.2.1 B.2.2.2.2.1 w1 w2 w3 eT (g := mkF m pc Ls (.ref a :: rest)) rfl (by rw [B.2.2.2.1]; exact hsz) rfl (B.d hd) hf hW hl
  exact Goes.go stp (k T' ⟨locs, X', e', N, hn⟩)
theorem Goes.ldcI {index : Nat} {v : Int32} (S : Sd p l e R s m args below meth c T h n0 cells slots) (B : Base p s m meth c Z y0 bytes0 maxL0 ret0) (w : (Cond.constant y0.cls index v).before a0 Z = true) (hd : decode bytes0 pc = .ok (.ldc index, 2)) (k : Goes p.tables e below Φ T (mkF m (pc + 2) Ls (.int v :: st))) : Goes p.tables e below Φ T (mkF m pc Ls st) := by
  obtain ⟨locs, X, eT, N, hn⟩ := S
  exact Goes.go (X.ldcInt B.1 B.2.2.2.2.1 (mvT B.2.1 w) (g := mkF m pc Ls st) rfl (B.d hd)) k
theorem Goes.ldcL {index : Nat} {v : Int64} (S : Sd p l e R s m args below meth c T h n0 cells slots) (B : Base p s m meth c Z y0 bytes0 maxL0 ret0) (w : (Cond.constantLong y0.cls index v).before a0 Z = true) (hd : decode bytes0 pc = .ok (.ldc2_w index, 3)) (k : Goes p.tables e below Φ T (mkF m (pc + 3) Ls (.long v :: st))) : Goes p.tables e below Φ T (mkF m pc Ls st) := by
  obtain ⟨locs, X, eT, N, hn⟩ := S
  exact Goes.go (X.ldc2Long B.1 B.2.2.2.2.1 (mvT B.2.1 w) (g := mkF m pc Ls st) rfl (B.d hd)) k
/-! calls -/
section Calls
variable {y : MethodName} {bytes : ByteArray} {maxL : Nat} {ret : Option FieldType} {rm : Room} {index W : Nat} {argsL : List Value} {Q : Option Value → Heap → Prop}
theorem Con.back {as' : Array Value} {len : Nat} (C : Con l Z y bytes maxL ret rm as' h n0 Q) (hn : n0 ≤ h.size) (hZ : Z.Warmed39 s.vm) (wc : (Cond.code y bytes maxL ret).before a0 Z = true) (wz : (Cond.initialized y.cls).before a0 Z = true) (hf : rm.frames + 1 ≤ R.frames) (hl : W + (maxL + 11) + rm.locals ≤ R.locals) :
    Back l R p e below s args y len W (fun A a => a = as' ∧ A.U.heap = h ∧ A.cells + rm.cells ≤ R.cells ∧ A.slots + rm.slots ≤ R.slots)
      (fun A _ v B => ∃ L, (Fr n0 L ∧ Q v B.U.heap) ∧ B.locs = A.locs ++ L ∧ B.cells = A.cells + rm.cells ∧ B.slots = A.slots + rm.slots) :=
  backOf (Q := fun v h L => Fr n0 L ∧ Q v h) (C hn []) hZ wc wz hf hl
theorem Goes.callS (S : Sd p l e R s m args below meth c T h n0 cells slots) (B : Base p s m meth c Z y0 bytes0 maxL0 ret0) (C : Con l Z y bytes maxL ret rm argsL.toArray h n0 Q) (wl : (Cond.methodLink y0.cls index y).before a0 Z = true) (ws : (Cond.static y).before a0 Z = true) (wi : (Cond.initialized y.cls).before a0 Z = true) (wc : (Cond.code y bytes maxL ret).before a0 Z = true)
    (hy : y.cls ≠ "java/lang/invoke/MethodHandle" ∧ y.cls ≠ "java/lang/invoke/VarHandle") (hf : rm.frames + 1 ≤ R.frames) (hlo : W + (maxL + 11) + rm.locals ≤ R.locals) (hc : cells + rm.cells ≤ R.cells) (hs : slots + rm.slots ≤ R.slots) (hsz : Ls.size = maxL0)
    (hlen : ∀ sig, parseMethodDescriptor y.desc = some sig → argsL.length = sig.parameters.length) (hst : st = argsL.reverse ++ rest) (hW : 2 * 0 + (rest.map fun v => v.category).sum ≤ W) (hd : decode bytes0 pc = .ok (.invokestatic index, 3))
    (k : ∀ v T' h', Sd p l e R s m args below meth c T' h' n0 (cells + rm.cells) (slots + rm.slots) → Q v h' → Goes p.tables e below Φ T' (mkF m (pc + 3) Ls (v.toList ++ rest))) : Goes p.tables e below Φ T (mkF m pc Ls st) := by
  have hle := S.le
  obtain ⟨locs, X, eT, N, hn⟩ := S
  subst hst
  obtain ⟨v, _, ⟨T', L', k', n'⟩, -, X', ⟨Lc, ⟨hN, hQ⟩, l1, y1, z1⟩, stp⟩ := Jvm.LawKit.callS X B.1 (y := y) B.2.2.2.2.1 (mvT B.2.1 wl) (mvT B.2.1 ws) (mvT B.2.1 wi) (mvT B.2.1 wc) hy (Con.back (W := W) C hle B.2.1 wc wi hf hlo) (g := mkF m pc Ls (argsL.reverse ++ rest)) rfl (by rw [B.2.2.2.1]; exact hsz) (argsL := argsL) (rest := rest) hlen rfl hW (B.d hd) (fun _ _ => ⟨rfl, eT, hc, hs⟩)
  dsimp only [Pt.U, Pt.locs, Pt.cells, Pt.slots] at X' l1 y1 z1 stp hQ
  subst l1 y1 z1
  exact Goes.go stp (k v T' T'.heap ⟨_, X', rfl, N.app hN, hn⟩ hQ)
theorem Goes.callI {b : Addr} (S : Sd p l e R s m args below meth c T h n0 cells slots) (B : Base p s m meth c Z y0 bytes0 maxL0 ret0) (C : Con l Z y bytes maxL none rm (.ref b :: argsL).toArray h n0 Q) (wl : (Cond.methodLink y0.cls index y).before a0 Z = true) (wim : (Cond.instanceMethod y).before a0 Z = true) (wi : (Cond.initialized y.cls).before a0 Z = true) (wc : (Cond.code y bytes maxL none).before a0 Z = true)
    (hy : y.cls ≠ "java/lang/invoke/MethodHandle" ∧ y.cls ≠ "java/lang/invoke/VarHandle") (hni : y.name = "<init>") (hf : rm.frames + 1 ≤ R.frames) (hlo : W + (maxL + 11) + rm.locals ≤ R.locals) (hc : cells + rm.cells ≤ R.cells) (hs : slots + rm.slots ≤ R.slots) (hsz : Ls.size = maxL0)
    (hlen : ∀ sig, parseMethodDescriptor y.desc = some sig → argsL.length = sig.parameters.length) (hst : st = argsL.reverse ++ .ref b :: rest) (hW : 2 * 0 + (rest.map fun v => v.category).sum ≤ W) (hd : decode bytes0 pc = .ok (.invokespecial index, 3))
    (k : ∀ v T' h', Sd p l e R s m args below meth c T' h' n0 (cells + rm.cells) (slots + rm.slots) → Q v h' → Goes p.tables e below Φ T' (mkF m (pc + 3) Ls (v.toList ++ rest))) : Goes p.tables e below Φ T (mkF m pc Ls st) := by
  have hle := S.le
  obtain ⟨locs, X, eT, N, hn⟩ := S
  subst hst
  obtain ⟨v, _, ⟨T', L', k', n'⟩, -, X', ⟨Lc, ⟨hN, hQ⟩, l1, y1, z1⟩, stp⟩ := X.specialBack B.1 (y := y) hni B.2.2.2.2.1 (mvT B.2.1 wl) (mvT B.2.1 wim) (mvT B.2.1 wc) hy (Con.back (W := W) C hle B.2.1 wc wi hf hlo) (g := mkF m pc Ls (argsL.reverse ++ .ref b :: rest)) rfl (by rw [B.2.2.2.1]; exact hsz) (Steps.refl _) (a := b) (argsL := argsL) (rest := rest) hlen rfl hW (B.d hd) (fun _ _ => ⟨rfl, eT, hc, hs⟩)
  dsimp only [Pt.U, Pt.locs, Pt.cells, Pt.slots] at X' l1 y1 z1 stp hQ
  subst l1 y1 z1
  exact Goes.go (fun t q => stp.trans q) (k v T' T'.heap ⟨_, X', rfl, N.app hN, hn⟩ hQ)
theorem Goes.callV {b : Addr} {K : String} (S : Sd p l e R s m args below meth c T h n0 cells slots) (B : Base p s m meth c Z y0 bytes0 maxL0 ret0) (C : Con l Z y bytes maxL ret rm (.ref b :: argsL).toArray h n0 Q) (E : Exa Z h b K) (wl : (Cond.methodLink y0.cls index y).before a0 Z = true) (wd : (Cond.declares y).before a0 Z = true) (wsel : (Cond.selects K y y).before a0 Z = true) (wim : (Cond.instanceMethod y).before a0 Z = true) (wi : (Cond.initialized y.cls).before a0 Z = true) (wc : (Cond.code y bytes maxL ret).before a0 Z = true)
    (hy : y.cls ≠ "java/lang/invoke/MethodHandle" ∧ y.cls ≠ "java/lang/invoke/VarHandle") (hf : rm.frames + 1 ≤ R.frames) (hlo : W + (maxL + 11) + rm.locals ≤ R.locals) (hc : cells + rm.cells ≤ R.cells) (hs : slots + rm.slots ≤ R.slots) (hsz : Ls.size = maxL0)
    (hlen : ∀ sig, parseMethodDescriptor y.desc = some sig → argsL.length = sig.parameters.length) (hst : st = argsL.reverse ++ .ref b :: rest) (hW : 2 * 0 + (rest.map fun v => v.category).sum ≤ W) (hd : decode bytes0 pc = .ok (.invokevirtual index, 3))
    (k : ∀ v T' h', Sd p l e R s m args below meth c T' h' n0 (cells + rm.cells) (slots + rm.slots) → Q v h' → Goes p.tables e below Φ T' (mkF m (pc + 3) Ls (v.toList ++ rest))) : Goes p.tables e below Φ T (mkF m pc Ls st) := by
  have hle := S.le
  obtain ⟨locs, X, eT, N, hn⟩ := S
  subst hst
  obtain ⟨cq, kq, qa, qb, qc⟩ := isOf B.2.1 eT E
  obtain ⟨v, _, ⟨T', L', k', n'⟩, -, X', ⟨Lc, ⟨hN, hQ⟩, l1, y1, z1⟩, stp⟩ := X.virtualBack B.1 (y := y) (z := y) B.2.2.2.2.1 (mvT B.2.1 wl) (mvT B.2.1 wd) (notFace_of_selects (args := #[]) (mvT B.2.1 wsel)) (mvT B.2.1 wsel) (mvT B.2.1 wim) hy (Con.back (W := W) C hle B.2.1 wc wi hf hlo) qa qc (g := mkF m pc Ls (argsL.reverse ++ .ref b :: rest)) rfl (by rw [B.2.2.2.1]; exact hsz) (Steps.refl _) (argsL := argsL) (rest := rest) hlen rfl hW (B.d hd) (fun _ _ => ⟨rfl, eT, hc, hs⟩)
  dsimp only [Pt.U, Pt.locs, Pt.cells, Pt.slots] at X' l1 y1 z1 stp hQ
  subst l1 y1 z1
  exact Goes.go (fun t q => stp.trans q) (k v T' T'.heap ⟨_, X', rfl, N.app hN, hn⟩ hQ)
theorem Goes.callP {b : Addr} {K : String} (S : Sd p l e R s m args below meth c T h n0 cells slots) (B : Base p s m meth c Z y0 bytes0 maxL0 ret0) (C : Con l Z y bytes maxL ret rm (.ref b :: argsL).toArray h n0 Q) (E : Exa Z h b K) (wl : (Cond.methodLink y0.cls index y).before a0 Z = true) (wp : (Cond.privateMethod y).before a0 Z = true) {kk : Nat} (wk : (Cond.instantiable y.cls kk).before a0 Z = true) (wim : (Cond.instanceMethod y).before a0 Z = true) (wi : (Cond.initialized y.cls).before a0 Z = true) (wc : (Cond.code y bytes maxL ret).before a0 Z = true)
    (hy : y.cls ≠ "java/lang/invoke/MethodHandle" ∧ y.cls ≠ "java/lang/invoke/VarHandle") (hf : rm.frames + 1 ≤ R.frames) (hlo : W + (maxL + 11) + rm.locals ≤ R.locals) (hc : cells + rm.cells ≤ R.cells) (hs : slots + rm.slots ≤ R.slots) (hsz : Ls.size = maxL0)
    (hlen : ∀ sig, parseMethodDescriptor y.desc = some sig → argsL.length = sig.parameters.length) (hst : st = argsL.reverse ++ .ref b :: rest) (hW : 2 * 0 + (rest.map fun v => v.category).sum ≤ W) (hd : decode bytes0 pc = .ok (.invokevirtual index, 3))
    (k : ∀ v T' h', Sd p l e R s m args below meth c T' h' n0 (cells + rm.cells) (slots + rm.slots) → Q v h' → Goes p.tables e below Φ T' (mkF m (pc + 3) Ls (v.toList ++ rest))) : Goes p.tables e below Φ T (mkF m pc Ls st) := by
  have hle := S.le
  obtain ⟨locs, X, eT, N, hn⟩ := S
  subst hst
  obtain ⟨cq, q1, q2⟩ := E.cell
  have hpr : s.PrivateAt y := Cond.privateMethod_at (mvP B.2.1 wp (args := #[]))
  have wsel : (Cond.selects y.cls y y).before args s = true := by
    obtain ⟨ci, ki, i1, i2, i3, i4, -⟩ := Cond.instantiable_spec (mvT B.2.1 wk (args := args))
    exact selects_self_of_private i1 i2 (Bool.or_eq_false_iff.mp i4).1 hpr (mvT B.2.1 wim) hy
  obtain ⟨v, _, ⟨T', L', k', n'⟩, -, X', ⟨Lc, ⟨hN, hQ⟩, l1, y1, z1⟩, stp⟩ := X.privateBack B.1 (y := y) B.2.2.2.2.1 (mvT B.2.1 wl) (mvT B.2.1 wim) wsel hpr (mvT B.2.1 wc) hy (Con.back (W := W) C hle B.2.1 wc wi hf hlo) (g := mkF m pc Ls (argsL.reverse ++ .ref b :: rest)) rfl (by rw [B.2.2.2.1]; exact hsz) (Steps.refl _) (a := b) (by rw [eT]; exact q1) q2 (argsL := argsL) (rest := rest) hlen rfl hW (B.d hd) (fun _ _ => ⟨rfl, eT, hc, hs⟩)
  dsimp only [Pt.U, Pt.locs, Pt.cells, Pt.slots] at X' l1 y1 z1 stp hQ
  subst l1 y1 z1
  exact Goes.go (fun t q => stp.trans q) (k v T' T'.heap ⟨_, X', rfl, N.app hN, hn⟩ hQ)
end Calls
/-! arrays: what lies at each place, as a function -/
def Ary (Z : State) (h : Heap) (a : Addr) (ty : FieldType) (n : Nat) (f : Nat → Value) : Prop := ∃ c : Cell, Arr Z h a c ty ∧ c.slots.size = n ∧ n < 2 ^ 31 ∧ ∀ i, i < n → c.slots[i]? = some (f i)
def upd {α : Type} (f : Nat → α) (i : Nat) (v : α) : Nat → α := fun k => if k = i then v else f k
theorem upd_int (g : Nat → Int32) (k : Nat) (x : Int32) : upd (fun i => Value.int (g i)) k (.int x) = fun i => .int (upd g k x i) := by
  funext i
  simp only [upd]
  split <;> rfl
theorem upd_long (g : Nat → Int64) (k : Nat) (x : Int64) : upd (fun i => Value.long (g i)) k (.long x) = fun i => .long (upd g k x i) := by
  funext i
  simp only [upd]
  split <;> rfl
section Arrays
variable {a b : Addr} {ty : FieldType} {n : Nat} {f : Nat → Value} {h' : Heap} {j : Int32} {v : Value} {sl : Nat} {ws : List Addr}
theorem Ary.lt (A : Ary Z h a ty n f) : a < h.size := by obtain ⟨c, A, -⟩ := A; exact A.lt
theorem Ary.ext (A : Ary Z h a ty n f) (E : Ext h h') : Ary Z h' a ty n f := by obtain ⟨c, A, r⟩ := A; exact ⟨c, A.ext E, r⟩
theorem Ary.other (A : Ary Z h b ty n f) (W : Wr h h' a sl v) (q : b ≠ a) : Ary Z h' b ty n f := by obtain ⟨c, A, r⟩ := A; exact ⟨c, A.other W q, r⟩
theorem Ary.keep (A : Ary Z h a ty n f) (K : Keep h h' ws) (q : a ∉ ws) : Ary Z h' a ty n f := by obtain ⟨c, A, r⟩ := A; exact ⟨c, ⟨K.2.1 a c A.1 q, A.2⟩, r⟩
theorem Ary.cast {g : Nat → Value} (A : Ary Z h a ty n f) (q : ∀ i, i < n → f i = g i) : Ary Z h a ty n g := by obtain ⟨c, A, r1, r2, r3⟩ := A; exact ⟨c, A, r1, r2, fun i hi => by rw [r3 i hi, q i hi]⟩
theorem Ary.new {z : Int32} {k : ClassId} (A : Arr Z h a (newA k ty z) ty) (q : ¬ z < 0) : Ary Z h a ty z.toNatClampNeg (fun _ => defaultValue ty) :=
  ⟨_, A, sz_new _ _ _, (back32 q).2, fun i hi => by simp [newA, hi]⟩
theorem Ary.set {i : Nat} (A : Ary Z h a ty n f) (W : Wr h h' a i v) (hi : i < n) : Ary Z h' a ty n (upd f i v) := by
  obtain ⟨c, A, r1, r2, r3⟩ := A
  refine ⟨_, A.same W, by rw [sz_set]; exact r1, r2, fun k hk => ?_⟩
  by_cases e : k = i
  · subst e
    simp [upd, Cell.setSlot, r1, hi]
  · have e' : i ≠ k := fun q => e q.symm
    simp only [upd, if_neg e, Cell.setSlot]
    rw [Array.getElem?_setIfInBounds_ne e']
    exact r3 k hk
theorem Goes.newP {aty : ArrayType} {z : Int32} {cap : Nat} (S : Sd p l e R s m args below meth c T h n0 cells slots) (B : Base p s m meth c Z y0 bytes0 maxL0 ret0) (w : (Cond.arrayClass (newarray.typeOf aty)).before a0 Z = true) (hd : decode bytes0 pc = .ok (.newarray aty, 2)) (hz : ¬ z < 0) (hcap : z.toNatClampNeg ≤ cap) (hb : cap * 8 ≤ 536870912) (hc : cells + 1 ≤ R.cells) (hl : slots + cap ≤ R.slots)
    (k : ∀ T' h' b, Sd p l e R s m args below meth c T' h' n0 (cells + 1) (slots + cap) → Ext h h' → b = h.size → n0 ≤ b → Ary Z h' b (newarray.typeOf aty) z.toNatClampNeg (fun _ => defaultValue (newarray.typeOf aty)) → Goes p.tables e below Φ T' (mkF m (pc + 2) Ls (.ref b :: rest))) :
    Goes p.tables e below Φ T (mkF m pc Ls (.int z :: rest)) := by
  have hle := S.le
  obtain ⟨locs, X, eT, N, hn⟩ := S
  obtain ⟨T', h', k', X', e', E, A, stp⟩ := RoadKit.newP X B.1 B.2.1 w eT (g := mkF m pc Ls (.int z :: rest)) rfl (B.d hd) rfl hz hcap hb hc hl
  exact Goes.go stp (k T' h' h.size ⟨locs, X', e', N, hn⟩ E rfl hle (Ary.new A hz))
theorem Goes.iaload (S : Sd p l e R s m args below meth c T h n0 cells slots) (B : Base p s m meth c Z y0 bytes0 maxL0 ret0) (A : Ary Z h a .int n f) (q0 : ¬ j < 0) (q1 : j.toNatClampNeg < n) (hd : decode bytes0 pc = .ok (.iaload, 1)) (hv : f j.toNatClampNeg = v) (k : Goes p.tables e below Φ T (mkF m (pc + 1) Ls (v :: rest))) : Goes p.tables e below Φ T (mkF m pc Ls (.int j :: .ref a :: rest)) := by
  obtain ⟨locs, X, eT, N, hn⟩ := S
  obtain ⟨cl, A, r1, r2, r3⟩ := A
  exact Goes.go (X.iaload B.1 (j := j) (v := v) (by rw [eT]; exact A.1) (State.isArrayOf_alike B.2.1.alike A.2.1) A.2.2 (by rw [r1]; exact fun z => z.elim q0 (Nat.not_le.mpr q1)) (by rw [r3 _ q1, hv]) (g := mkF m pc Ls (.int j :: .ref a :: rest)) rfl rfl (B.d hd)) k
theorem Goes.laload (S : Sd p l e R s m args below meth c T h n0 cells slots) (B : Base p s m meth c Z y0 bytes0 maxL0 ret0) (A : Ary Z h a .long n f) (q0 : ¬ j < 0) (q1 : j.toNatClampNeg < n) (hd : decode bytes0 pc = .ok (.laload, 1)) (hv : f j.toNatClampNeg = v) (k : Goes p.tables e below Φ T (mkF m (pc + 1) Ls (v :: rest))) : Goes p.tables e below Φ T (mkF m pc Ls (.int j :: .ref a :: rest)) := by
  obtain ⟨locs, X, eT, N, hn⟩ := S
  obtain ⟨cl, A, r1, r2, r3⟩ := A
  exact Goes.go (X.laload B.1 (j := j) (v := v) (by rw [eT]; exact A.1) (State.isArrayOf_alike B.2.1.alike A.2.1) A.2.2 (by rw [r1]; exact fun z => z.elim q0 (Nat.not_le.mpr q1)) (by rw [r3 _ q1, hv]) (g := mkF m pc Ls (.int j :: .ref a :: rest)) rfl rfl (B.d hd)) k
theorem Goes.baload (S : Sd p l e R s m args below meth c T h n0 cells slots) (B : Base p s m meth c Z y0 bytes0 maxL0 ret0) (A : Ary Z h a .byte n f) (q0 : ¬ j < 0) (q1 : j.toNatClampNeg < n) (hd : decode bytes0 pc = .ok (.baload, 1)) (hv : f j.toNatClampNeg = v) (k : Goes p.tables e below Φ T (mkF m (pc + 1) Ls (v :: rest))) : Goes p.tables e below Φ T (mkF m pc Ls (.int j :: .ref a :: rest)) := by
  obtain ⟨locs, X, eT, N, hn⟩ := S
  obtain ⟨cl, A, r1, r2, r3⟩ := A
  exact Goes.go (X.baloadBytes B.1 (j := j) (v := v) (by rw [eT]; exact A.1) (State.isArrayOf_alike B.2.1.alike A.2.1) A.2.2 (by rw [r1]; exact fun z => z.elim q0 (Nat.not_le.mpr q1)) (by rw [r3 _ q1, hv]) (g := mkF m pc Ls (.int j :: .ref a :: rest)) rfl rfl (B.d hd)) k
theorem Goes.zaload (S : Sd p l e R s m args below meth c T h n0 cells slots) (B : Base p s m meth c Z y0 bytes0 maxL0 ret0) (A : Ary Z h a .boolean n f) (q0 : ¬ j < 0) (q1 : j.toNatClampNeg < n) (hd : decode bytes0 pc = .ok (.baload, 1)) (hv : f j.toNatClampNeg = v) (k : Goes p.tables e below Φ T (mkF m (pc + 1) Ls (v :: rest))) : Goes p.tables e below Φ T (mkF m pc Ls (.int j :: .ref a :: rest)) := by
  obtain ⟨locs, X, eT, N, hn⟩ := S
  obtain ⟨cl, A, r1, r2, r3⟩ := A
  exact Goes.go (X.baloadBooleans B.1 (j := j) (v := v) (by rw [eT]; exact A.1) (State.isArrayOf_alike B.2.1.alike A.2.1) A.2.2 (by rw [r1]; exact fun z => z.elim q0 (Nat.not_le.mpr q1)) (by rw [r3 _ q1, hv]) (g := mkF m pc Ls (.int j :: .ref a :: rest)) rfl rfl (B.d hd)) k
theorem Goes.alen (S : Sd p l e R s m args below meth c T h n0 cells slots) (B : Base p s m meth c Z y0 bytes0 maxL0 ret0) (A : Ary Z h a ty n f) {z : Int32} (hz : n.toInt32 = z) (hd : decode bytes0 pc = .ok (.arraylength, 1)) (k : Goes p.tables e below Φ T (mkF m (pc + 1) Ls (.int z :: rest))) : Goes p.tables e below Φ T (mkF m pc Ls (.ref a :: rest)) := by
  obtain ⟨locs, X, eT, N, hn⟩ := S
  obtain ⟨cl, A, r1, r2, r3⟩ := A
  subst r1 hz
  exact Goes.go (X.arraylength B.1 (by rw [eT]; exact A.1) (State.isArrayOf_alike B.2.1.alike A.2.1) (g := mkF m pc Ls (.ref a :: rest)) rfl rfl (B.d hd)) k
theorem Goes.iastore {x : Int32} (S : Sd p l e R s m args below meth c T h n0 cells slots) (B : Base p s m meth c Z y0 bytes0 maxL0 ret0) (A : Ary Z h a .int n f) (q0 : ¬ j < 0) (q1 : j.toNatClampNeg < n) (ga : n0 ≤ a) (hd : decode bytes0 pc = .ok (.iastore, 1))
    (k : ∀ T' h', Sd p l e R s m args below meth c T' h' n0 cells slots → Wr h h' a j.toNatClampNeg (.int x) → Ary Z h' a .int n (upd f j.toNatClampNeg (.int x)) → Goes p.tables e below Φ T' (mkF m (pc + 1) Ls rest)) : Goes p.tables e below Φ T (mkF m pc Ls (.int x :: .int j :: .ref a :: rest)) := by
  obtain ⟨locs, X, eT, N, hn⟩ := S
  have A' := A
  obtain ⟨cl, A, r1, r2, r3⟩ := A
  obtain ⟨T', h', X', e', W, stp⟩ := RoadKit.stI X B.1 B.2.1 eT A (j := j) (by rw [r1]; exact fun z => z.elim q0 (Nat.not_le.mpr q1)) (g := mkF m pc Ls (.int x :: .int j :: .ref a :: rest)) rfl rfl (B.d hd)
  exact Goes.go stp (k T' h' ⟨_, X', e', Fr.snoc X' N ga, hn⟩ W (A'.set W q1))
theorem Goes.lastore {x : Int64} (S : Sd p l e R s m args below meth c T h n0 cells slots) (B : Base p s m meth c Z y0 bytes0 maxL0 ret0) (A : Ary Z h a .long n f) (q0 : ¬ j < 0) (q1 : j.toNatClampNeg < n) (ga : n0 ≤ a) (hd : decode bytes0 pc = .ok (.lastore, 1))
    (k : ∀ T' h', Sd p l e R s m args below meth c T' h' n0 cells slots → Wr h h' a j.toNatClampNeg (.long x) → Ary Z h' a .long n (upd f j.toNatClampNeg (.long x)) → Goes p.tables e below Φ T' (mkF m (pc + 1) Ls rest)) : Goes p.tables e below Φ T (mkF m pc Ls (.long x :: .int j :: .ref a :: rest)) := by
  obtain ⟨locs, X, eT, N, hn⟩ := S
  have A' := A
  obtain ⟨cl, A, r1, r2, r3⟩ := A
  obtain ⟨T', h', X', e', W, stp⟩ := RoadKit.stJ X B.1 B.2.1 eT A (j := j) (by rw [r1]; exact fun z => z.elim q0 (Nat.not_le.mpr q1)) (g := mkF m pc Ls (.long x :: .int j :: .ref a :: rest)) rfl rfl (B.d hd)
  exact Goes.go stp (k T' h' ⟨_, X', e', Fr.snoc X' N ga, hn⟩ W (A'.set W q1))
theorem Goes.bastore {x : Int32} (S : Sd p l e R s m args below meth c T h n0 cells slots) (B : Base p s m meth c Z y0 bytes0 maxL0 ret0) (A : Ary Z h a .byte n f) (q0 : ¬ j < 0) (q1 : j.toNatClampNeg < n) (ga : n0 ≤ a) (hd : decode bytes0 pc = .ok (.bastore, 1))
    (k : ∀ T' h', Sd p l e R s m args below meth c T' h' n0 cells slots → Wr h h' a j.toNatClampNeg (.int (nar .byte x)) → Ary Z h' a .byte n (upd f j.toNatClampNeg (.int (nar .byte x))) → Goes p.tables e below Φ T' (mkF m (pc + 1) Ls rest)) : Goes p.tables e below Φ T (mkF m pc Ls (.int x :: .int j :: .ref a :: rest)) := by
  obtain ⟨locs, X, eT, N, hn⟩ := S
  have A' := A
  obtain ⟨cl, A, r1, r2, r3⟩ := A
  obtain ⟨T', h', X', e', W, stp⟩ := RoadKit.stB X B.1 B.2.1 eT A (j := j) (by rw [r1]; exact fun z => z.elim q0 (Nat.not_le.mpr q1)) (g := mkF m pc Ls (.int x :: .int j :: .ref a :: rest)) rfl rfl (B.d hd)
  exact Goes.go stp (k T' h' ⟨_, X', e', Fr.snoc X' N ga, hn⟩ W (A'.set W q1))
theorem Goes.zastore {x : Int32} (S : Sd p l e R s m args below meth c T h n0 cells slots) (B : Base p s m meth c Z y0 bytes0 maxL0 ret0) (A : Ary Z h a .boolean n f) (q0 : ¬ j < 0) (q1 : j.toNatClampNeg < n) (ga : n0 ≤ a) (hd : decode bytes0 pc = .ok (.bastore, 1))
    (k : ∀ T' h', Sd p l e R s m args below meth c T' h' n0 cells slots → Wr h h' a j.toNatClampNeg (.int (nar .boolean x)) → Ary Z h' a .boolean n (upd f j.toNatClampNeg (.int (nar .boolean x))) → Goes p.tables e below Φ T' (mkF m (pc + 1) Ls rest)) : Goes p.tables e below Φ T (mkF m pc Ls (.int x :: .int j :: .ref a :: rest)) := by
  obtain ⟨locs, X, eT, N, hn⟩ := S
  have A' := A
  obtain ⟨cl, A, r1, r2, r3⟩ := A
  obtain ⟨T', h', X', e', W, stp⟩ := RoadKit.stZ X B.1 B.2.1 eT A (j := j) (by rw [r1]; exact fun z => z.elim q0 (Nat.not_le.mpr q1)) (g := mkF m pc Ls (.int x :: .int j :: .ref a :: rest)) rfl rfl (B.d hd)
  exact Goes.go stp (k T' h' ⟨_, X', e', Fr.snoc X' N ga, hn⟩ W (A'.set W q1))
end Arrays
end Lay
end Jvm.OwnKit
namespace Jvm.Pilot.@@N@@
open Jvm Jvm.ClassFile Sem Op Lib Jvm.Free Jvm.Stand Jvm.LawKit Jvm.RoadKit Jvm.OwnKit Bundle Jvm.Pilot.@@N@@.Jvm.D
theorem w0 {Z : State} {a0 : Array Value} (hw : ∀ d ∈ tables_1, d.before a0 Z = true) : ((Jvm.Cond.methodLink "com/example/orphean/orphean/BlowfishPackPinLaw" (7 : Nat) ({ cls := "com/example/orphean/orphean/Blowfish", name := "pack", desc := "(I)J" } : Jvm.MethodName)) : Jvm.Cond).before a0 Z = true := hw _ (List.mem_of_getElem? (i := 0) rfl)
theorem w1 {Z : State} {a0 : Array Value} (hw : ∀ d ∈ tables_1, d.before a0 Z = true) : ((Jvm.Cond.static ({ cls := "com/example/orphean/orphean/Blowfish", name := "pack", desc := "(I)J" } : Jvm.MethodName)) : Jvm.Cond).before a0 Z = true := hw _ (List.mem_of_getElem? (i := 1) rfl)
theorem w2 {Z : State} {a0 : Array Value} (hw : ∀ d ∈ tables_1, d.before a0 Z = true) : ((Jvm.Cond.initialized "com/example/orphean/orphean/Blowfish") : Jvm.Cond).before a0 Z = true := hw _ (List.mem_of_getElem? (i := 2) rfl)
theorem w3 {Z : State} {a0 : Array Value} (hw : ∀ d ∈ tables_1, d.before a0 Z = true) : ((Jvm.Cond.code ({ cls := "com/example/orphean/orphean/Blowfish", name := "pack", desc := "(I)J" } : Jvm.MethodName) prog_9_method_2_code (1 : Nat) (Option.some Jvm.ClassFile.FieldType.long)) : Jvm.Cond).before a0 Z = true := hw _ (List.mem_of_getElem? (i := 3) rfl)
theorem w4 {Z : State} {a0 : Array Value} (hw : ∀ d ∈ tables_1, d.before a0 Z = true) : ((Jvm.Cond.constantLong "com/example/orphean/orphean/Blowfish" (11 : Nat) (4294967295 : Int64)) : Jvm.Cond).before a0 Z = true := hw _ (List.mem_of_getElem? (i := 4) rfl)
theorem w5 {Z : State} {a0 : Array Value} (hw : ∀ d ∈ tables_1, d.before a0 Z = true) : ((Jvm.Cond.constantLong "com/example/orphean/orphean/BlowfishPackPinLaw" (13 : Nat) (255 : Int64)) : Jvm.Cond).before a0 Z = true := hw _ (List.mem_of_getElem? (i := 5) rfl)
theorem w6 {Z : State} {a0 : Array Value} (hw : ∀ d ∈ tables_1, d.before a0 Z = true) : ((Jvm.Cond.constant "com/example/orphean/orphean/BlowfishPackPinLaw" (15 : Nat) (16777215 : Int32)) : Jvm.Cond).before a0 Z = true := hw _ (List.mem_of_getElem? (i := 6) rfl)
theorem d_prog_9_method_2_0 : decode prog_9_method_2_code 0 = .ok (.iload_n 0, 1) := by decide +kernel
theorem d_prog_9_method_2_1 : decode prog_9_method_2_code 1 = .ok (.i2l, 1) := by decide +kernel
theorem d_prog_9_method_2_2 : decode prog_9_method_2_code 2 = .ok (.bipush 40, 2) := by decide +kernel
theorem d_prog_9_method_2_4 : decode prog_9_method_2_code 4 = .ok (.lshl, 1) := by decide +kernel
theorem d_prog_9_method_2_5 : decode prog_9_method_2_code 5 = .ok (.iload_n 0, 1) := by decide +kernel
theorem d_prog_9_method_2_6 : decode prog_9_method_2_code 6 = .ok (.i2l, 1) := by decide +kernel
theorem d_prog_9_method_2_7 : decode prog_9_method_2_code 7 = .ok (.ldc2_w 11, 3) := by decide +kernel
theorem d_prog_9_method_2_10 : decode prog_9_method_2_code 10 = .ok (.land, 1) := by decide +kernel
theorem d_prog_9_method_2_11 : decode prog_9_method_2_code 11 = .ok (.lor, 1) := by decide +kernel
theorem d_prog_9_method_2_12 : decode prog_9_method_2_code 12 = .ok (.lreturn, 1) := by decide +kernel
theorem pd_0 : parseMethodDescriptor "(I)J" = some ⟨[.int], some .long⟩ := by decide +kernel
theorem pn_0 : plainName "com/example/orphean/orphean/Blowfish" = true := by first | (simp [plainName, overriddenIn]; done) | decide +kernel
theorem pn_1 : plainName "com/example/orphean/orphean/BlowfishPackPinLaw" = true := by first | (simp [plainName, overriddenIn]; done) | decide +kernel
theorem n_inj32 {x y : Int32} (h : x.toBitVec.toNat = y.toBitVec.toNat) : x = y := Int32.toBitVec_inj.mp (BitVec.eq_of_toNat_eq h)
theorem n_inj64 {x y : Int64} (h : x.toBitVec.toNat = y.toBitVec.toNat) : x = y := Int64.toBitVec_inj.mp (BitVec.eq_of_toNat_eq h)
theorem or_add (a b k : Nat) (h : b < 2 ^ k) : a * 2 ^ k ||| b = a * 2 ^ k + b := by
  rw [← Nat.shiftLeft_eq, Nat.shiftLeft_add_eq_or_of_lt h]
theorem n_or (x y : Int64) : (x ||| y).toBitVec.toNat = x.toBitVec.toNat ||| y.toBitVec.toNat := by rw [Int64.toBitVec_or, BitVec.toNat_or]
theorem n_or32 (x y : Int32) : (x ||| y).toBitVec.toNat = x.toBitVec.toNat ||| y.toBitVec.toNat := by rw [Int32.toBitVec_or, BitVec.toNat_or]
theorem n_maskL (x m : Int64) (k : Nat) (hk : k ≤ 64) (hm : m.toBitVec.toNat = 2 ^ k - 1) : (x &&& m).toBitVec.toNat = x.toBitVec.toNat % 2 ^ k := by
  rw [Int64.toBitVec_and, BitVec.toNat_and, hm, Nat.and_two_pow_sub_one_eq_mod]
theorem n_mask (x m : Int32) (k : Nat) (hk : k ≤ 32) (hm : m.toBitVec.toNat = 2 ^ k - 1) : (x &&& m).toBitVec.toNat = x.toBitVec.toNat % 2 ^ k := by
  rw [Int32.toBitVec_and, BitVec.toNat_and, hm, Nat.and_two_pow_sub_one_eq_mod]
theorem n_shl (x q : Int64) (k : Nat) (hk : (q.toBitVec.smod 64).toNat = k) : (x <<< q).toBitVec.toNat = x.toBitVec.toNat * 2 ^ k % 2 ^ 64 := by
  rw [Int64.toBitVec_shiftLeft, BitVec.shiftLeft_eq', BitVec.toNat_shiftLeft, Nat.shiftLeft_eq, hk]
theorem n_lushr (x : Int64) (q : UInt64) (k : Nat) (hk : q.toNat % 64 = k) : ((x.toUInt64 >>> q).toInt64).toBitVec.toNat = x.toBitVec.toNat / 2 ^ k := by
  show (x.toUInt64 >>> q).toNat = _
  rw [UInt64.toNat_shiftRight, hk, Nat.shiftRight_eq_div_pow]
  rfl
theorem n_iushr (x : Int32) (q : UInt32) (k : Nat) (hk : q.toNat % 32 = k) : ((x.toUInt32 >>> q).toInt32).toBitVec.toNat = x.toBitVec.toNat / 2 ^ k := by
  show (x.toUInt32 >>> q).toNat = _
  rw [UInt32.toNat_shiftRight, hk, Nat.shiftRight_eq_div_pow]
  rfl
theorem n_l2i (x : Int64) : x.toInt32.toBitVec.toNat = x.toBitVec.toNat % 2 ^ 32 := by
  show (x.toBitVec.signExtend 32).toNat = _
  rw [BitVec.signExtend_eq_setWidth_of_le _ (by omega), BitVec.toNat_setWidth]
theorem n_i2l (x : Int32) : x.toInt64.toBitVec.toNat = x.toBitVec.toNat + if 2 ^ 31 ≤ x.toBitVec.toNat then 2 ^ 64 - 2 ^ 32 else 0 := by
  show (x.toBitVec.signExtend 64).toNat = _
  rw [BitVec.toNat_signExtend, BitVec.toNat_setWidth, BitVec.msb_eq_decide]
  have hx : x.toBitVec.toNat < 2 ^ 32 := x.toBitVec.isLt
  rw [Nat.mod_eq_of_lt (by omega)]
  simp
theorem n_ishl (x q : Int32) (k : Nat) (hk : (q.toBitVec.smod 32).toNat = k) : (x <<< q).toBitVec.toNat = x.toBitVec.toNat * 2 ^ k % 2 ^ 32 := by
  rw [Int32.toBitVec_shiftLeft, BitVec.shiftLeft_eq', BitVec.toNat_shiftLeft, Nat.shiftLeft_eq, hk]
theorem n_toInt (x : Int32) : x.toInt = if x.toBitVec.toNat < 2147483648 then (x.toBitVec.toNat : Int) else (x.toBitVec.toNat : Int) - 4294967296 := by
  have h : x.toInt = if 2 * x.toBitVec.toNat < 2 ^ 32 then (x.toBitVec.toNat : Int) else (x.toBitVec.toNat : Int) - (2 ^ 32 : Nat) := BitVec.toInt_eq_toNat_cond x.toBitVec
  rw [h]
  split <;> split <;> omega
theorem n_lt (x : Int32) : x.toBitVec.toNat < 4294967296 := x.toBitVec.isLt
theorem n_add (x y : Int32) : (x + y).toBitVec.toNat = (x.toBitVec.toNat + y.toBitVec.toNat) % 4294967296 := by rw [Int32.toBitVec_add, BitVec.toNat_add]
theorem n_addL (x y : Int64) : (x + y).toBitVec.toNat = (x.toBitVec.toNat + y.toBitVec.toNat) % 18446744073709551616 := by rw [Int64.toBitVec_add, BitVec.toNat_add]
theorem n_xor (x y : Int32) : (x ^^^ y).toBitVec.toNat = x.toBitVec.toNat ^^^ y.toBitVec.toNat := by rw [Int32.toBitVec_xor, BitVec.toNat_xor]
theorem n_xorL (x y : Int64) : (x ^^^ y).toBitVec.toNat = x.toBitVec.toNat ^^^ y.toBitVec.toNat := by rw [Int64.toBitVec_xor, BitVec.toNat_xor]
theorem n_tm (x : Int32) : (x.toBitVec.toNat : Int) % 256 = x.toInt % 256 := by
  have h := n_toInt x
  split at h <;> omega
theorem n_tm2 (x : Int32) : (x.toBitVec.toNat : Int) % 65536 = x.toInt % 65536 := by
  have h := n_toInt x
  split at h <;> omega

theorem own_pack (x : Int32) (v : Int64) (h : ((x.toInt64 <<< ((40 : Int32) &&& 0x3f).toInt64) ||| (x.toInt64 &&& (4294967295 : Int64))) = v) : v.toBitVec.toNat = x.toBitVec.toNat % 2 ^ 24 * 2 ^ 40 + x.toBitVec.toNat := by
  subst h
  have hx : x.toBitVec.toNat < 2 ^ 32 := x.toBitVec.isLt
  rw [n_or, n_shl _ _ 40 (by decide), n_maskL _ _ 32 (by omega) (by decide), n_i2l]
  have e1 : (x.toBitVec.toNat + if 2 ^ 31 ≤ x.toBitVec.toNat then 2 ^ 64 - 2 ^ 32 else 0) % 2 ^ 32 = x.toBitVec.toNat := by split <;> omega
  have e2 : (x.toBitVec.toNat + if 2 ^ 31 ≤ x.toBitVec.toNat then 2 ^ 64 - 2 ^ 32 else 0) * 2 ^ 40 % 2 ^ 64 = x.toBitVec.toNat % 2 ^ 24 * 2 ^ 40 := by split <;> omega
  rw [e1, e2]
  exact or_add _ _ 40 (by omega)
theorem own_low (x : Int32) (v : Int64) (h : ((x.toInt64 <<< ((40 : Int32) &&& 0x3f).toInt64) ||| (x.toInt64 &&& (4294967295 : Int64))) = v) : v.toInt32 = x := by
  have e := own_pack x v h
  have hx : x.toBitVec.toNat < 2 ^ 32 := x.toBitVec.isLt
  apply n_inj32
  rw [n_l2i, e]
  omega
theorem own_carries (x : Int32) (v : Int64) (h : ((x.toInt64 <<< ((40 : Int32) &&& 0x3f).toInt64) ||| (x.toInt64 &&& (4294967295 : Int64))) = v) : (((v.toUInt64 >>> ((32 : Int32) &&& 0x3f).toInt64.toUInt64).toInt64) &&& (255 : Int64)) = (0 : Int64) := by
  have e := own_pack x v h
  have hx : x.toBitVec.toNat < 2 ^ 32 := x.toBitVec.isLt
  apply n_inj64
  rw [n_maskL _ _ 8 (by omega) (by decide), n_lushr _ _ 32 (by decide), e]
  show _ = 0
  generalize x.toBitVec.toNat = n at *
  have hy : n % 2 ^ 24 < 2 ^ 24 := by omega
  generalize n % 2 ^ 24 = y at *
  have h1 : (y * 2 ^ 40 + n) / 2 ^ 32 = y * 256 := by omega
  rw [h1]
  omega
theorem own_copy (x : Int32) (v : Int64) (h : ((x.toInt64 <<< ((40 : Int32) &&& 0x3f).toInt64) ||| (x.toInt64 &&& (4294967295 : Int64))) = v) : ((v.toUInt64 >>> ((40 : Int32) &&& 0x3f).toInt64.toUInt64).toInt64) = (x &&& (16777215 : Int32)).toInt64 := by
  have e := own_pack x v h
  have hx : x.toBitVec.toNat < 2 ^ 32 := x.toBitVec.isLt
  apply n_inj64
  rw [n_lushr _ _ 40 (by decide), e, n_i2l, n_mask _ _ 24 (by omega) (by decide)]
  have : ¬ 2 ^ 31 ≤ x.toBitVec.toNat % 2 ^ 24 := by omega
  rw [if_neg this]
  omega
theorem own_second (x : Int32) (v : Int64) (h : ((x.toInt64 <<< ((40 : Int32) &&& 0x3f).toInt64) ||| (x.toInt64 &&& (4294967295 : Int64))) = v) : ((v.toUInt64 >>> ((56 : Int32) &&& 0x3f).toInt64.toUInt64).toInt64).toInt32 = (((x.toUInt32 >>> ((16 : Int32) &&& 31).toUInt32).toInt32) &&& (255 : Int32)) := by
  have e := own_pack x v h
  have hx : x.toBitVec.toNat < 2 ^ 32 := x.toBitVec.isLt
  apply n_inj32
  rw [n_l2i, n_lushr _ _ 56 (by decide), e, n_mask _ _ 8 (by omega) (by decide), n_iushr _ _ 16 (by decide)]
  generalize x.toBitVec.toNat = n at *
  obtain ⟨y, z, hy, hn⟩ : ∃ y z, y < 2 ^ 24 ∧ n = y + 2 ^ 24 * z := ⟨n % 2 ^ 24, n / 2 ^ 24, by omega, by omega⟩
  have h0 : n % 2 ^ 24 = y := by omega
  rw [h0]
  have h1 : (y * 2 ^ 40 + n) / 2 ^ 56 = y / 2 ^ 16 := by omega
  have h3 : n / 2 ^ 16 = y / 2 ^ 16 + 2 ^ 8 * z := by omega
  have h2 : n / 2 ^ 16 % 2 ^ 8 = y / 2 ^ 16 := by omega
  rw [h1, h2]
  omega

theorem ef_rm1 (m : MethodId) (p0 : Int32) : entryFrame m #[(.int p0)] 1 = mkF m 0 #[.val (.int p0)] [] := by first | (simp [entryFrame, mkF, argsToLocals, Value.category]; done) | rfl
def Q_rm1 (Z : State) (p0 : Int32) (h0 : Heap) (n0 : Nat) (v : Option Value) (h : Heap) : Prop := v = some (.long ((p0.toInt64 <<< ((40 : Int32) &&& 0x3f).toInt64) ||| (p0.toInt64 &&& (4294967295 : Int64)))) ∧ h = h0
set_option maxRecDepth 65536 in
set_option maxHeartbeats 40000000 in
theorem rm1 (l : Launch) (Z : State) (aw : Array Value) (hw : ∀ d ∈ tables_1, d.before aw Z = true) (p0 : Int32) (h0 : Heap) (n0 : Nat) :
    Con l Z (⟨"com/example/orphean/orphean/Blowfish", "pack", "(I)J"⟩ : MethodName) prog_9_method_2_code 1 (some .long) ({ frames := 0, cells := 0, slots := 0, locals := 0 } : Room) #[(.int p0)] h0 n0 (Q_rm1 Z p0 h0 n0) := by
  refine Con.body (plainFor_of_name pn_0) ?_
  intro p e s m below meth c T B S
  refine Goes.cast (ef_rm1 m p0) ?_
  refine Goes.go (fun _ => XS.iloadN S.here B.x rfl (B.d d_prog_9_method_2_0) rfl) ?_
  show Goes _ _ _ _ T (mkF m 1 #[.val (.int p0)] [(.int p0)])
  refine Goes.go (fun _ => XS.i2l S.here B.x rfl (B.d d_prog_9_method_2_1) rfl) ?_
  show Goes _ _ _ _ T (mkF m 2 #[.val (.int p0)] [(.long p0.toInt64)])
  refine Goes.go (fun _ => XS.bipush S.here B.x rfl (B.d d_prog_9_method_2_2)) ?_
  show Goes _ _ _ _ T (mkF m 4 #[.val (.int p0)] [(.int (40 : Int32)), (.long p0.toInt64)])
  refine Goes.go (fun _ => XS.lshl S.here B.x rfl (B.d d_prog_9_method_2_4) rfl) ?_
  show Goes _ _ _ _ T (mkF m 5 #[.val (.int p0)] [(.long (p0.toInt64 <<< ((40 : Int32) &&& 0x3f).toInt64))])
  refine Goes.go (fun _ => XS.iloadN S.here B.x rfl (B.d d_prog_9_method_2_5) rfl) ?_
  show Goes _ _ _ _ T (mkF m 6 #[.val (.int p0)] [(.int p0), (.long (p0.toInt64 <<< ((40 : Int32) &&& 0x3f).toInt64))])
  refine Goes.go (fun _ => XS.i2l S.here B.x rfl (B.d d_prog_9_method_2_6) rfl) ?_
  show Goes _ _ _ _ T (mkF m 7 #[.val (.int p0)] [(.long p0.toInt64), (.long (p0.toInt64 <<< ((40 : Int32) &&& 0x3f).toInt64))])
  refine Goes.ldcL S B (w4 hw) d_prog_9_method_2_7 ?_
  show Goes _ _ _ _ T (mkF m 10 #[.val (.int p0)] [(.long (4294967295 : Int64)), (.long p0.toInt64), (.long (p0.toInt64 <<< ((40 : Int32) &&& 0x3f).toInt64))])
  refine Goes.go (fun _ => XS.land S.here B.x rfl (B.d d_prog_9_method_2_10) rfl) ?_
  show Goes _ _ _ _ T (mkF m 11 #[.val (.int p0)] [(.long (p0.toInt64 &&& (4294967295 : Int64))), (.long (p0.toInt64 <<< ((40 : Int32) &&& 0x3f).toInt64))])
  refine Goes.go (fun _ => XS.lor S.here B.x rfl (B.d d_prog_9_method_2_11) rfl) ?_
  show Goes _ _ _ _ T (mkF m 12 #[.val (.int p0)] [(.long ((p0.toInt64 <<< ((40 : Int32) &&& 0x3f).toInt64) ||| (p0.toInt64 &&& (4294967295 : Int64))))])
  refine Goes.retL S B d_prog_9_method_2_12 (by decide) (by decide) ?_
  exact ⟨(by first | rfl | (rw [bi_pos (by assumption)]; rfl) | (rw [bi_neg (by assumption)]; rfl) | (rw [nar_bi]; exact congrArg (fun z => some (Value.int z)) (bi_congr (by simp_all))) | (simp_all [bi, nar]; done)), rfl⟩
theorem ef_rm0 (m : MethodId) (p0 : Int32) : entryFrame m #[(.int p0)] maxLocals = mkF m 0 #[.val (.int p0), .unset, .unset, .unset, .unset, .unset, .unset] [] := by first | (simp [entryFrame, mkF, argsToLocals, Value.category, maxLocals]; done) | rfl
def Q_rm0 (Z : State) (p0 : Int32) (h0 : Heap) (n0 : Nat) (v : Option Value) (h : Heap) : Prop := v = some (.int 1)
set_option maxRecDepth 65536 in
set_option maxHeartbeats 40000000 in
theorem rm0 (l : Launch) (Z : State) (aw : Array Value) (hw : ∀ d ∈ tables_1, d.before aw Z = true) (p0 : Int32) (h0 : Heap) (n0 : Nat) :
    Con l Z x code maxLocals ret room_1 #[(.int p0)] h0 n0 (Q_rm0 Z p0 h0 n0) := by
  refine Con.body (plainFor_of_name pn_1) ?_
  intro p e s m below meth c T B S
  refine Goes.cast (ef_rm0 m p0) ?_
  refine Goes.go (fun _ => XS.iloadN S.here B.x rfl (B.d at_0) rfl) ?_
  show Goes _ _ _ _ T (mkF m 1 #[.val (.int p0), .unset, .unset, .unset, .unset, .unset, .unset] [(.int p0)])
  refine Goes.callS (argsL := [(.int p0)]) (rest := []) (W := 0) S B (rm1 l Z aw hw p0 _ n0) (w0 hw) (w1 hw) (w2 hw) (w3 hw) (by decide) (by decide) (by decide) (by decide) (by decide) rfl (lenOf pd_0 rfl) rfl (Nat.le_of_eq rfl) at_1 ?_
  intro v T h S hQ
  obtain ⟨rfl, hh⟩ := hQ
  replace hh := hh.symm
  subst hh
  show Goes _ _ _ _ T (mkF m 4 #[.val (.int p0), .unset, .unset, .unset, .unset, .unset, .unset] [(.long ((p0.toInt64 <<< ((40 : Int32) &&& 0x3f).toInt64) ||| (p0.toInt64 &&& (4294967295 : Int64))))])
  generalize hv1 : ((p0.toInt64 <<< ((40 : Int32) &&& 0x3f).toInt64) ||| (p0.toInt64 &&& (4294967295 : Int64))) = v1
  refine Goes.go (fun _ => XS.lstoreN S.here B.x rfl (B.d at_4) rfl (l' := #[.val (.int p0), .val (.long v1), .second, .unset, .unset, .unset, .unset]) rfl) ?_
  show Goes _ _ _ _ T (mkF m 5 #[.val (.int p0), .val (.long v1), .second, .unset, .unset, .unset, .unset] [])
  refine Goes.go (fun _ => XS.lloadN S.here B.x rfl (B.d at_5) rfl) ?_
  show Goes _ _ _ _ T (mkF m 6 #[.val (.int p0), .val (.long v1), .second, .unset, .unset, .unset, .unset] [(.long v1)])
  refine Goes.go (fun _ => XS.l2i S.here B.x rfl (B.d at_6) rfl) ?_
  show Goes _ _ _ _ T (mkF m 7 #[.val (.int p0), .val (.long v1), .second, .unset, .unset, .unset, .unset] [(.int v1.toInt32)])
  refine Goes.go (fun _ => XS.iloadN S.here B.x rfl (B.d at_7) rfl) ?_
  show Goes _ _ _ _ T (mkF m 8 #[.val (.int p0), .val (.long v1), .second, .unset, .unset, .unset, .unset] [(.int p0), (.int v1.toInt32)])
  refine Goes.go (fun _ => XS.icmpNo S.here B.x rfl (B.d at_8) rfl (teq (show v1.toInt32 = p0 from own_low p0 _ hv1)).2) ?_
  show Goes _ _ _ _ T (mkF m 11 #[.val (.int p0), .val (.long v1), .second, .unset, .unset, .unset, .unset] [])
  refine Goes.go (fun _ => XS.iconst S.here B.x rfl (B.d at_11)) ?_
  show Goes _ _ _ _ T (mkF m 12 #[.val (.int p0), .val (.long v1), .second, .unset, .unset, .unset, .unset] [(.int (1 : Int32))])
  refine Goes.go (fun _ => XS.goto S.here B.x rfl (pc0 := 12) (pc' := 16) rfl (B.d at_12) (by decide) (by decide)) ?_
  show Goes _ _ _ _ T (mkF m 16 #[.val (.int p0), .val (.long v1), .second, .unset, .unset, .unset, .unset] [(.int (1 : Int32))])
  refine Goes.go (fun _ => XS.istoreN S.here B.x rfl (B.d at_16) rfl (l' := #[.val (.int p0), .val (.long v1), .second, .val (.int (1 : Int32)), .unset, .unset, .unset]) rfl) ?_
  show Goes _ _ _ _ T (mkF m 17 #[.val (.int p0), .val (.long v1), .second, .val (.int (1 : Int32)), .unset, .unset, .unset] [])
  refine Goes.go (fun _ => XS.lloadN S.here B.x rfl (B.d at_17) rfl) ?_
  show Goes _ _ _ _ T (mkF m 18 #[.val (.int p0), .val (.long v1), .second, .val (.int (1 : Int32)), .unset, .unset, .unset] [(.long v1)])
  refine Goes.go (fun _ => XS.bipush S.here B.x rfl (B.d at_18)) ?_
  show Goes _ _ _ _ T (mkF m 20 #[.val (.int p0), .val (.long v1), .second, .val (.int (1 : Int32)), .unset, .unset, .unset] [(.int (32 : Int32)), (.long v1)])
  refine Goes.go (fun _ => XS.lushr S.here B.x rfl (B.d at_20) rfl) ?_
  show Goes _ _ _ _ T (mkF m 21 #[.val (.int p0), .val (.long v1), .second, .val (.int (1 : Int32)), .unset, .unset, .unset] [(.long ((v1.toUInt64 >>> ((32 : Int32) &&& 0x3f).toInt64.toUInt64).toInt64))])
  refine Goes.ldcL S B (w5 hw) at_21 ?_
  show Goes _ _ _ _ T (mkF m 24 #[.val (.int p0), .val (.long v1), .second, .val (.int (1 : Int32)), .unset, .unset, .unset] [(.long (255 : Int64)), (.long ((v1.toUInt64 >>> ((32 : Int32) &&& 0x3f).toInt64.toUInt64).toInt64))])
  refine Goes.go (fun _ => XS.land S.here B.x rfl (B.d at_24) rfl) ?_
  show Goes _ _ _ _ T (mkF m 25 #[.val (.int p0), .val (.long v1), .second, .val (.int (1 : Int32)), .unset, .unset, .unset] [(.long (((v1.toUInt64 >>> ((32 : Int32) &&& 0x3f).toInt64.toUInt64).toInt64) &&& (255 : Int64)))])
  refine Goes.go (fun _ => XS.lconst S.here B.x rfl (B.d at_25)) ?_
  show Goes _ _ _ _ T (mkF m 26 #[.val (.int p0), .val (.long v1), .second, .val (.int (1 : Int32)), .unset, .unset, .unset] [(.long (0 : Int64)), (.long (((v1.toUInt64 >>> ((32 : Int32) &&& 0x3f).toInt64.toUInt64).toInt64) &&& (255 : Int64)))])
  refine Goes.go (fun _ => XS.lcmp S.here B.x rfl (B.d at_26) rfl) ?_
  show Goes _ _ _ _ T (mkF m 27 #[.val (.int p0), .val (.long v1), .second, .val (.int (1 : Int32)), .unset, .unset, .unset] [(.int (lcmpW (((v1.toUInt64 >>> ((32 : Int32) &&& 0x3f).toInt64.toUInt64).toInt64) &&& (255 : Int64)) (0 : Int64)))])
  refine Goes.go (fun _ => XS.ifNo S.here B.x rfl (B.d at_27) rfl ((if0 _ _).trans (teq ((lw_eq (((v1.toUInt64 >>> ((32 : Int32) &&& 0x3f).toInt64.toUInt64).toInt64) &&& (255 : Int64)) (0 : Int64)).mpr (show (((v1.toUInt64 >>> ((32 : Int32) &&& 0x3f).toInt64.toUInt64).toInt64) &&& (255 : Int64)) = (0 : Int64) from own_carries p0 _ hv1))).2)) ?_
  show Goes _ _ _ _ T (mkF m 30 #[.val (.int p0), .val (.long v1), .second, .val (.int (1 : Int32)), .unset, .unset, .unset] [])
  refine Goes.go (fun _ => XS.iconst S.here B.x rfl (B.d at_30)) ?_
  show Goes _ _ _ _ T (mkF m 31 #[.val (.int p0), .val (.long v1), .second, .val (.int (1 : Int32)), .unset, .unset, .unset] [(.int (1 : Int32))])
  refine Goes.go (fun _ => XS.goto S.here B.x rfl (pc0 := 31) (pc' := 35) rfl (B.d at_31) (by decide) (by decide)) ?_
  show Goes _ _ _ _ T (mkF m 35 #[.val (.int p0), .val (.long v1), .second, .val (.int (1 : Int32)), .unset, .unset, .unset] [(.int (1 : Int32))])
  refine Goes.go (fun _ => XS.istore S.here B.x rfl (B.d at_35) rfl (l' := #[.val (.int p0), .val (.long v1), .second, .val (.int (1 : Int32)), .val (.int (1 : Int32)), .unset, .unset]) rfl) ?_
  show Goes _ _ _ _ T (mkF m 37 #[.val (.int p0), .val (.long v1), .second, .val (.int (1 : Int32)), .val (.int (1 : Int32)), .unset, .unset] [])
  refine Goes.go (fun _ => XS.lloadN S.here B.x rfl (B.d at_37) rfl) ?_
  show Goes _ _ _ _ T (mkF m 38 #[.val (.int p0), .val (.long v1), .second, .val (.int (1 : Int32)), .val (.int (1 : Int32)), .unset, .unset] [(.long v1)])
  refine Goes.go (fun _ => XS.bipush S.here B.x rfl (B.d at_38)) ?_
  show Goes _ _ _ _ T (mkF m 40 #[.val (.int p0), .val (.long v1), .second, .val (.int (1 : Int32)), .val (.int (1 : Int32)), .unset, .unset] [(.int (40 : Int32)), (.long v1)])
  refine Goes.go (fun _ => XS.lushr S.here B.x rfl (B.d at_40) rfl) ?_
  show Goes _ _ _ _ T (mkF m 41 #[.val (.int p0), .val (.long v1), .second, .val (.int (1 : Int32)), .val (.int (1 : Int32)), .unset, .unset] [(.long ((v1.toUInt64 >>> ((40 : Int32) &&& 0x3f).toInt64.toUInt64).toInt64))])
  refine Goes.go (fun _ => XS.iloadN S.here B.x rfl (B.d at_41) rfl) ?_
  show Goes _ _ _ _ T (mkF m 42 #[.val (.int p0), .val (.long v1), .second, .val (.int (1 : Int32)), .val (.int (1 : Int32)), .unset, .unset] [(.int p0), (.long ((v1.toUInt64 >>> ((40 : Int32) &&& 0x3f).toInt64.toUInt64).toInt64))])
  refine Goes.ldcI S B (w6 hw) at_42 ?_
  show Goes _ _ _ _ T (mkF m 44 #[.val (.int p0), .val (.long v1), .second, .val (.int (1 : Int32)), .val (.int (1 : Int32)), .unset, .unset] [(.int (16777215 : Int32)), (.int p0), (.long ((v1.toUInt64 >>> ((40 : Int32) &&& 0x3f).toInt64.toUInt64).toInt64))])
  refine Goes.go (fun _ => XS.iand S.here B.x rfl (B.d at_44) rfl) ?_
  show Goes _ _ _ _ T (mkF m 45 #[.val (.int p0), .val (.long v1), .second, .val (.int (1 : Int32)), .val (.int (1 : Int32)), .unset, .unset] [(.int (p0 &&& (16777215 : Int32))), (.long ((v1.toUInt64 >>> ((40 : Int32) &&& 0x3f).toInt64.toUInt64).toInt64))])
  refine Goes.go (fun _ => XS.i2l S.here B.x rfl (B.d at_45) rfl) ?_
  show Goes _ _ _ _ T (mkF m 46 #[.val (.int p0), .val (.long v1), .second, .val (.int (1 : Int32)), .val (.int (1 : Int32)), .unset, .unset] [(.long (p0 &&& (16777215 : Int32)).toInt64), (.long ((v1.toUInt64 >>> ((40 : Int32) &&& 0x3f).toInt64.toUInt64).toInt64))])
  refine Goes.go (fun _ => XS.lcmp S.here B.x rfl (B.d at_46) rfl) ?_
  show Goes _ _ _ _ T (mkF m 47 #[.val (.int p0), .val (.long v1), .second, .val (.int (1 : Int32)), .val (.int (1 : Int32)), .unset, .unset] [(.int (lcmpW ((v1.toUInt64 >>> ((40 : Int32) &&& 0x3f).toInt64.toUInt64).toInt64) (p0 &&& (16777215 : Int32)).toInt64))])
  refine Goes.go (fun _ => XS.ifNo S.here B.x rfl (B.d at_47) rfl ((if0 _ _).trans (teq ((lw_eq ((v1.toUInt64 >>> ((40 : Int32) &&& 0x3f).toInt64.toUInt64).toInt64) (p0 &&& (16777215 : Int32)).toInt64).mpr (show ((v1.toUInt64 >>> ((40 : Int32) &&& 0x3f).toInt64.toUInt64).toInt64) = (p0 &&& (16777215 : Int32)).toInt64 from own_copy p0 _ hv1))).2)) ?_
  show Goes _ _ _ _ T (mkF m 50 #[.val (.int p0), .val (.long v1), .second, .val (.int (1 : Int32)), .val (.int (1 : Int32)), .unset, .unset] [])
  refine Goes.go (fun _ => XS.iconst S.here B.x rfl (B.d at_50)) ?_
  show Goes _ _ _ _ T (mkF m 51 #[.val (.int p0), .val (.long v1), .second, .val (.int (1 : Int32)), .val (.int (1 : Int32)), .unset, .unset] [(.int (1 : Int32))])
  refine Goes.go (fun _ => XS.goto S.here B.x rfl (pc0 := 51) (pc' := 55) rfl (B.d at_51) (by decide) (by decide)) ?_
  show Goes _ _ _ _ T (mkF m 55 #[.val (.int p0), .val (.long v1), .second, .val (.int (1 : Int32)), .val (.int (1 : Int32)), .unset, .unset] [(.int (1 : Int32))])
  refine Goes.go (fun _ => XS.istore S.here B.x rfl (B.d at_55) rfl (l' := #[.val (.int p0), .val (.long v1), .second, .val (.int (1 : Int32)), .val (.int (1 : Int32)), .val (.int (1 : Int32)), .unset]) rfl) ?_
  show Goes _ _ _ _ T (mkF m 57 #[.val (.int p0), .val (.long v1), .second, .val (.int (1 : Int32)), .val (.int (1 : Int32)), .val (.int (1 : Int32)), .unset] [])
  refine Goes.go (fun _ => XS.lloadN S.here B.x rfl (B.d at_57) rfl) ?_
  show Goes _ _ _ _ T (mkF m 58 #[.val (.int p0), .val (.long v1), .second, .val (.int (1 : Int32)), .val (.int (1 : Int32)), .val (.int (1 : Int32)), .unset] [(.long v1)])
  refine Goes.go (fun _ => XS.bipush S.here B.x rfl (B.d at_58)) ?_
  show Goes _ _ _ _ T (mkF m 60 #[.val (.int p0), .val (.long v1), .second, .val (.int (1 : Int32)), .val (.int (1 : Int32)), .val (.int (1 : Int32)), .unset] [(.int (56 : Int32)), (.long v1)])
  refine Goes.go (fun _ => XS.lushr S.here B.x rfl (B.d at_60) rfl) ?_
  show Goes _ _ _ _ T (mkF m 61 #[.val (.int p0), .val (.long v1), .second, .val (.int (1 : Int32)), .val (.int (1 : Int32)), .val (.int (1 : Int32)), .unset] [(.long ((v1.toUInt64 >>> ((56 : Int32) &&& 0x3f).toInt64.toUInt64).toInt64))])
  refine Goes.go (fun _ => XS.l2i S.here B.x rfl (B.d at_61) rfl) ?_
  show Goes _ _ _ _ T (mkF m 62 #[.val (.int p0), .val (.long v1), .second, .val (.int (1 : Int32)), .val (.int (1 : Int32)), .val (.int (1 : Int32)), .unset] [(.int ((v1.toUInt64 >>> ((56 : Int32) &&& 0x3f).toInt64.toUInt64).toInt64).toInt32)])
  refine Goes.go (fun _ => XS.iloadN S.here B.x rfl (B.d at_62) rfl) ?_
  show Goes _ _ _ _ T (mkF m 63 #[.val (.int p0), .val (.long v1), .second, .val (.int (1 : Int32)), .val (.int (1 : Int32)), .val (.int (1 : Int32)), .unset] [(.int p0), (.int ((v1.toUInt64 >>> ((56 : Int32) &&& 0x3f).toInt64.toUInt64).toInt64).toInt32)])
  refine Goes.go (fun _ => XS.bipush S.here B.x rfl (B.d at_63)) ?_
  show Goes _ _ _ _ T (mkF m 65 #[.val (.int p0), .val (.long v1), .second, .val (.int (1 : Int32)), .val (.int (1 : Int32)), .val (.int (1 : Int32)), .unset] [(.int (16 : Int32)), (.int p0), (.int ((v1.toUInt64 >>> ((56 : Int32) &&& 0x3f).toInt64.toUInt64).toInt64).toInt32)])
  refine Goes.go (fun _ => XS.iushr S.here B.x rfl (B.d at_65) rfl) ?_
  show Goes _ _ _ _ T (mkF m 66 #[.val (.int p0), .val (.long v1), .second, .val (.int (1 : Int32)), .val (.int (1 : Int32)), .val (.int (1 : Int32)), .unset] [(.int ((p0.toUInt32 >>> ((16 : Int32) &&& 31).toUInt32).toInt32)), (.int ((v1.toUInt64 >>> ((56 : Int32) &&& 0x3f).toInt64.toUInt64).toInt64).toInt32)])
  refine Goes.go (fun _ => XS.sipush S.here B.x rfl (B.d at_66)) ?_
  show Goes _ _ _ _ T (mkF m 69 #[.val (.int p0), .val (.long v1), .second, .val (.int (1 : Int32)), .val (.int (1 : Int32)), .val (.int (1 : Int32)), .unset] [(.int (255 : Int32)), (.int ((p0.toUInt32 >>> ((16 : Int32) &&& 31).toUInt32).toInt32)), (.int ((v1.toUInt64 >>> ((56 : Int32) &&& 0x3f).toInt64.toUInt64).toInt64).toInt32)])
  refine Goes.go (fun _ => XS.iand S.here B.x rfl (B.d at_69) rfl) ?_
  show Goes _ _ _ _ T (mkF m 70 #[.val (.int p0), .val (.long v1), .second, .val (.int (1 : Int32)), .val (.int (1 : Int32)), .val (.int (1 : Int32)), .unset] [(.int (((p0.toUInt32 >>> ((16 : Int32) &&& 31).toUInt32).toInt32) &&& (255 : Int32))), (.int ((v1.toUInt64 >>> ((56 : Int32) &&& 0x3f).toInt64.toUInt64).toInt64).toInt32)])
  refine Goes.go (fun _ => XS.icmpNo S.here B.x rfl (B.d at_70) rfl (teq (show ((v1.toUInt64 >>> ((56 : Int32) &&& 0x3f).toInt64.toUInt64).toInt64).toInt32 = (((p0.toUInt32 >>> ((16 : Int32) &&& 31).toUInt32).toInt32) &&& (255 : Int32)) from own_second p0 _ hv1)).2) ?_
  show Goes _ _ _ _ T (mkF m 73 #[.val (.int p0), .val (.long v1), .second, .val (.int (1 : Int32)), .val (.int (1 : Int32)), .val (.int (1 : Int32)), .unset] [])
  refine Goes.go (fun _ => XS.iconst S.here B.x rfl (B.d at_73)) ?_
  show Goes _ _ _ _ T (mkF m 74 #[.val (.int p0), .val (.long v1), .second, .val (.int (1 : Int32)), .val (.int (1 : Int32)), .val (.int (1 : Int32)), .unset] [(.int (1 : Int32))])
  refine Goes.go (fun _ => XS.goto S.here B.x rfl (pc0 := 74) (pc' := 78) rfl (B.d at_74) (by decide) (by decide)) ?_
  show Goes _ _ _ _ T (mkF m 78 #[.val (.int p0), .val (.long v1), .second, .val (.int (1 : Int32)), .val (.int (1 : Int32)), .val (.int (1 : Int32)), .unset] [(.int (1 : Int32))])
  refine Goes.go (fun _ => XS.istore S.here B.x rfl (B.d at_78) rfl (l' := #[.val (.int p0), .val (.long v1), .second, .val (.int (1 : Int32)), .val (.int (1 : Int32)), .val (.int (1 : Int32)), .val (.int (1 : Int32))]) rfl) ?_
  show Goes _ _ _ _ T (mkF m 80 #[.val (.int p0), .val (.long v1), .second, .val (.int (1 : Int32)), .val (.int (1 : Int32)), .val (.int (1 : Int32)), .val (.int (1 : Int32))] [])
  refine Goes.go (fun _ => XS.iloadN S.here B.x rfl (B.d at_80) rfl) ?_
  show Goes _ _ _ _ T (mkF m 81 #[.val (.int p0), .val (.long v1), .second, .val (.int (1 : Int32)), .val (.int (1 : Int32)), .val (.int (1 : Int32)), .val (.int (1 : Int32))] [(.int (1 : Int32))])
  refine Goes.go (fun _ => XS.ifNo S.here B.x rfl (B.d at_81) rfl (by decide)) ?_
  show Goes _ _ _ _ T (mkF m 84 #[.val (.int p0), .val (.long v1), .second, .val (.int (1 : Int32)), .val (.int (1 : Int32)), .val (.int (1 : Int32)), .val (.int (1 : Int32))] [])
  refine Goes.go (fun _ => XS.iload S.here B.x rfl (B.d at_84) rfl) ?_
  show Goes _ _ _ _ T (mkF m 86 #[.val (.int p0), .val (.long v1), .second, .val (.int (1 : Int32)), .val (.int (1 : Int32)), .val (.int (1 : Int32)), .val (.int (1 : Int32))] [(.int (1 : Int32))])
  refine Goes.go (fun _ => XS.ifNo S.here B.x rfl (B.d at_86) rfl (by decide)) ?_
  show Goes _ _ _ _ T (mkF m 89 #[.val (.int p0), .val (.long v1), .second, .val (.int (1 : Int32)), .val (.int (1 : Int32)), .val (.int (1 : Int32)), .val (.int (1 : Int32))] [])
  refine Goes.go (fun _ => XS.iload S.here B.x rfl (B.d at_89) rfl) ?_
  show Goes _ _ _ _ T (mkF m 91 #[.val (.int p0), .val (.long v1), .second, .val (.int (1 : Int32)), .val (.int (1 : Int32)), .val (.int (1 : Int32)), .val (.int (1 : Int32))] [(.int (1 : Int32))])
  refine Goes.go (fun _ => XS.ifNo S.here B.x rfl (B.d at_91) rfl (by decide)) ?_
  show Goes _ _ _ _ T (mkF m 94 #[.val (.int p0), .val (.long v1), .second, .val (.int (1 : Int32)), .val (.int (1 : Int32)), .val (.int (1 : Int32)), .val (.int (1 : Int32))] [])
  refine Goes.go (fun _ => XS.iload S.here B.x rfl (B.d at_94) rfl) ?_
  show Goes _ _ _ _ T (mkF m 96 #[.val (.int p0), .val (.long v1), .second, .val (.int (1 : Int32)), .val (.int (1 : Int32)), .val (.int (1 : Int32)), .val (.int (1 : Int32))] [(.int (1 : Int32))])
  refine Goes.go (fun _ => XS.ifNo S.here B.x rfl (B.d at_96) rfl (by decide)) ?_
  show Goes _ _ _ _ T (mkF m 99 #[.val (.int p0), .val (.long v1), .second, .val (.int (1 : Int32)), .val (.int (1 : Int32)), .val (.int (1 : Int32)), .val (.int (1 : Int32))] [])
  refine Goes.go (fun _ => XS.iconst S.here B.x rfl (B.d at_99)) ?_
  show Goes _ _ _ _ T (mkF m 100 #[.val (.int p0), .val (.long v1), .second, .val (.int (1 : Int32)), .val (.int (1 : Int32)), .val (.int (1 : Int32)), .val (.int (1 : Int32))] [(.int (1 : Int32))])
  refine Goes.go (fun _ => XS.goto S.here B.x rfl (pc0 := 100) (pc' := 104) rfl (B.d at_100) (by decide) (by decide)) ?_
  show Goes _ _ _ _ T (mkF m 104 #[.val (.int p0), .val (.long v1), .second, .val (.int (1 : Int32)), .val (.int (1 : Int32)), .val (.int (1 : Int32)), .val (.int (1 : Int32))] [(.int (1 : Int32))])
  refine Goes.retN S B (by simp) at_104 (by decide) (by decide) ?_
  exact rfl
set_option maxRecDepth 65536 in
set_option maxHeartbeats 40000000 in
theorem comes_1 {Post : Tables → Env → Array Value → State → Outcome → State → Prop} (hpost : ∀ tb e args s v u, (limb_1_1.after args s (.returned v) u = true ∧ limb_1_2.after args s (.returned v) u = true ∧ True) → FrameEnd s (.returned v) u (Jvm.fieldLocs frame_1_writes args s ++ Jvm.arrayLocs frame_1_arrays args s ++ Jvm.staticLocs frame_1_statics s) 0 0 → Post tb e args s (.returned v) u) :
    ArmFor flags0 classFile x code maxLocals ret World_1 tables_1 room_1 Calls_1 rest_1 Pre_1 Post := by
  intro l hfl _ _ p e ha hc hk s m args below hf hA hF happ hP
  obtain ⟨hcalls, hrest, hpre⟩ := hP
  obtain ⟨-, -, -, hnamed, -, -, -, hat⟩ := (Spec.applies_iff hf).mp happ
  obtain ⟨hg, hn⟩ := and_e (Cond.before_iff.mp (show (Jvm.Cond.and given_1 narrow_1).before args s = true from hpre))
  obtain ⟨g0, k0⟩ := and_e hg
  have g1 := k0
  obtain ⟨w0, rfl⟩ : ∃ w0 : Value, args = #[w0] := by
    have hs : args.size = 1 := by simpa [Cond.value, given_1] using g0
    obtain ⟨L⟩ := args
    match L, hs with
    | [w0], _ => exact ⟨w0, rfl⟩
  have hw := fun d (hd : d ∈ tables_1) => atoms_spec (ws := Jvm.Cond.code x code maxLocals ret :: tables_1) hat d (List.mem_cons_of_mem _ hd)
  obtain ⟨i0, ei0⟩ := is_v g1
  obtain rfl : w0 = (.int i0) := Option.some.inj ei0
  obtain ⟨n, o, h1, h2, h3, _, L, rfl, ⟨N, rfl⟩, hq⟩ := rm0 l s _ hw i0 s.heap s.heap.size (Nat.le_refl _) tables_1 p e ha hc hk s m _ below hf ((Spec.applies_iff_loose hf).mp happ).1 ⟨rfl, State.Warmed39.refl s, rfl⟩ trivial
  refine ⟨n, _, h1, h2, h3, hpost _ _ _ _ _ _ ⟨Cond.after_iff.mpr rfl, Cond.after_iff.mpr (eq_i res_at (Term.int_eval (1)) rfl), trivial⟩ ⟨hq.1, hq.2.1, (hq.2.2.sift fun y hy => Or.inr (N y hy)).mono (by decide) (by decide)⟩⟩
theorem main_1_1 : Claimed_1_1 := comes_1 fun _ _ _ _ _ _ h hF => ⟨h.1, hF⟩
theorem main_1_2 : Claimed_1_2 := comes_1 fun _ _ _ _ _ _ h hF => ⟨h.2.1, hF⟩
end Jvm.Pilot.@@N@@
namespace Jvm.Pilot.@@N@@
open Jvm Jvm.ClassFile Sem Op Lib Jvm.Free Jvm.Stand Jvm.Pilot.@@N@@.Jvm.D
/-! MADE BY PROGRAM (witnessworld.py) out of the Statement's table words and the real class files: 9 classes; the members and pool entries that the words name. The judged class is class 1, her method 1. -/
namespace start1
open Jvm.ClassFile
def u (s : String) : CpInfo := .utf8 (stringToUtf16 s)
/-- a pool by its gaps: so many unusable entries, then the entry; so many at the end -/
def gap : Nat → List CpInfo → List CpInfo
  | 0, r => r
  | n + 1, r => .unusable :: gap n r
def poolList (es : List (Nat × CpInfo)) (last : Nat) : List CpInfo := es.foldr (fun e r => gap e.1 (e.2 :: r)) (gap last [])
def pool (es : List (Nat × CpInfo)) (last : Nat) : Array CpInfo := ⟨poolList es last⟩
def fileOf (pool : Array CpInfo) (this : Nat) (attrs : Array Attribute := #[]) (ms : Array MethodInfo := #[]) (fl : Nat := 33) (sup : Nat := 0) (ifs : Array Nat := #[]) (fds : Array FieldInfo := #[]) : ClassFile where
  minorVersion := 0
  majorVersion := 65
  constantPool := pool
  accessFlags := fl
  thisClass := this
  superClass := sup
  interfaces := ifs
  fields := fds
  methods := ms
  attributes := attrs
def plain (name : String) (sup : Option ClassId) : Class where
  name := name
  kind := .ordinary
  loader := none
  accessFlags := 33
  super := sup
  interfaces := #[]
  cf := none
  fields := #[]
  methods := #[]
  instanceTypes := #[]
  staticTypes := #[]
  resolved := #[]
  callSites := []
  init := .initialized
  statics := none
  mirror := none

def pool0 : Array CpInfo := pool [(5, u "<init>"), (0, u "()V"), (1, .class_ 10), (1, u "java/lang/Object")] 113

def k0m0 : Method := { name := "<init>", desc := "()V", sig := { parameters := [], returnType := none }, accessFlags := 1, code := none }
/-- java/lang/Object -/
def k0 : Class := { plain "java/lang/Object" none with
  accessFlags := 33
  interfaces := #[]
  cf := some (fileOf pool0 8 #[] #[{ accessFlags := 1, nameIndex := 5, descriptorIndex := 6, attributes := #[] }] 33 0 #[] #[])
  fields := #[]
  methods := #[k0m0]
  instanceTypes := #[]
  staticTypes := #[]
  resolved := Array.replicate 124 none
  statics := none }

def pool1 : Array CpInfo := pool [(2, .class_ 4), (1, u "java/lang/Object"), (0, u "<init>"), (0, u "()V"), (0, .methodref 8 9), (0, .class_ 10), (0, .nameAndType 11 12), (0, u "com/example/orphean/orphean/Blowfish"), (0, u "pack"), (0, u "(I)J"), (0, .long 255), (1, .integer 16777215), (0, .class_ 17), (0, u "com/example/orphean/orphean/BlowfishPackPinLaw"), (2, u "law"), (0, u "(I)Z")] 3

def k1m0 : Method := { name := "<init>", desc := "()V", sig := { parameters := [], returnType := none }, accessFlags := 2, code := none }
def k1c1 : Code := { maxStack := 4, maxLocals := 7, code := code, exceptionTable := #[], attributes := #[] }
def k1m1 : Method := { name := "law", desc := "(I)Z", sig := { parameters := [.int], returnType := some .boolean }, accessFlags := 9, code := some k1c1 }
/-- com/example/orphean/orphean/BlowfishPackPinLaw -/
def k1 : Class := { plain "com/example/orphean/orphean/BlowfishPackPinLaw" (some 0) with
  accessFlags := 49
  interfaces := #[]
  cf := some (fileOf pool1 16 #[] #[{ accessFlags := 2, nameIndex := 5, descriptorIndex := 6, attributes := #[] }, { accessFlags := 9, nameIndex := 20, descriptorIndex := 21, attributes := #[] }] 49 2 #[] #[])
  fields := #[]
  methods := #[k1m0, k1m1]
  instanceTypes := #[]
  staticTypes := #[]
  resolved := Array.replicate 25 none
  statics := none }

def pool2 : Array CpInfo := pool [(3, .class_ 4), (0, u "com/example/orphean/orphean/Blowfish"), (1, .class_ 8), (1, u "java/lang/Object"), (0, u "<init>"), (0, u "()V"), (0, .long 4294967295), (3, u "INITIAL_STATE"), (0, u "[J"), (12, u "pack"), (0, u "(I)J"), (12, u "KEY_WORDS"), (0, u "I"), (2, u "STATE_WORDS"), (1, u "BLOCK_WORDS"), (1, u "ROUNDS"), (1, u "NO_CARRIES"), (0, u "J"), (2, u "S0"), (0, u "S1"), (1, u "S2"), (1, u "S3")] 19

def k2m0 : Method := { name := "<init>", desc := "()V", sig := { parameters := [], returnType := none }, accessFlags := 2, code := none }
def k2c1 : Code := { maxStack := 6, maxLocals := 1, code := prog_9_method_2_code, exceptionTable := #[], attributes := #[] }
def k2m1 : Method := { name := "pack", desc := "(I)J", sig := { parameters := [.int], returnType := some .long }, accessFlags := 8, code := some k2c1 }
/-- com/example/orphean/orphean/Blowfish -/
def k2 : Class := { plain "com/example/orphean/orphean/Blowfish" (some 0) with
  accessFlags := 48
  interfaces := #[]
  cf := some (fileOf pool2 3 #[] #[{ accessFlags := 2, nameIndex := 9, descriptorIndex := 10, attributes := #[] }, { accessFlags := 8, nameIndex := 29, descriptorIndex := 30, attributes := #[] }] 48 6 #[] #[{ accessFlags := 24, nameIndex := 43, descriptorIndex := 44, attributes := #[] }, { accessFlags := 24, nameIndex := 47, descriptorIndex := 44, attributes := #[] }, { accessFlags := 24, nameIndex := 49, descriptorIndex := 44, attributes := #[] }, { accessFlags := 24, nameIndex := 51, descriptorIndex := 44, attributes := #[] }, { accessFlags := 24, nameIndex := 53, descriptorIndex := 54, attributes := #[] }, { accessFlags := 26, nameIndex := 57, descriptorIndex := 44, attributes := #[] }, { accessFlags := 26, nameIndex := 58, descriptorIndex := 44, attributes := #[] }, { accessFlags := 26, nameIndex := 60, descriptorIndex := 44, attributes := #[] }, { accessFlags := 26, nameIndex := 62, descriptorIndex := 44, attributes := #[] }, { accessFlags := 26, nameIndex := 15, descriptorIndex := 16, attributes := #[] }])
  fields := #[{ name := "KEY_WORDS", type := .int, accessFlags := 24, slot := 0, constantValue := 0 }, { name := "STATE_WORDS", type := .int, accessFlags := 24, slot := 1, constantValue := 0 }, { name := "BLOCK_WORDS", type := .int, accessFlags := 24, slot := 2, constantValue := 0 }, { name := "ROUNDS", type := .int, accessFlags := 24, slot := 3, constantValue := 0 }, { name := "NO_CARRIES", type := .long, accessFlags := 24, slot := 4, constantValue := 0 }, { name := "S0", type := .int, accessFlags := 26, slot := 5, constantValue := 0 }, { name := "S1", type := .int, accessFlags := 26, slot := 6, constantValue := 0 }, { name := "S2", type := .int, accessFlags := 26, slot := 7, constantValue := 0 }, { name := "S3", type := .int, accessFlags := 26, slot := 8, constantValue := 0 }, { name := "INITIAL_STATE", type := (.array .long), accessFlags := 26, slot := 9, constantValue := 0 }]
  methods := #[k2m0, k2m1]
  instanceTypes := #[]
  staticTypes := #[.int, .int, .int, .int, .long, .int, .int, .int, .int, (.array .long)]
  resolved := Array.replicate 82 none
  statics := none }

def pool3 : Array CpInfo := pool [(1, u "java/lang/Cloneable"), (0, .class_ 1), (0, u "java/lang/Object"), (0, .class_ 3)] 3

/-- java/lang/Cloneable -/
def k3 : Class := { plain "java/lang/Cloneable" (some 0) with
  accessFlags := 1537
  interfaces := #[]
  cf := some (fileOf pool3 2 #[] #[] 1537 4 #[] #[])
  fields := #[]
  methods := #[]
  instanceTypes := #[]
  staticTypes := #[]
  resolved := Array.replicate 8 none
  statics := none }

def pool4 : Array CpInfo := pool [(1, u "java/io/Serializable"), (0, .class_ 1), (0, u "java/lang/Object"), (0, .class_ 3)] 3

/-- java/io/Serializable -/
def k4 : Class := { plain "java/io/Serializable" (some 0) with
  accessFlags := 1537
  interfaces := #[]
  cf := some (fileOf pool4 2 #[] #[] 1537 4 #[] #[])
  fields := #[]
  methods := #[]
  instanceTypes := #[]
  staticTypes := #[]
  resolved := Array.replicate 8 none
  statics := none }

/-- the primitive byte -/
def k5 : Class := { plain "byte" none with kind := .primitive 'B', accessFlags := 0x411 }
/-- [B -/
def k6 : Class := { plain "[B" (some 0) with kind := .array 5 .byte, interfaces := #[3, 4], accessFlags := 1041 }

/-- the primitive int -/
def k7 : Class := { plain "int" none with kind := .primitive 'I', accessFlags := 0x411 }
/-- [I -/
def k8 : Class := { plain "[I" (some 0) with kind := .array 7 .int, interfaces := #[3, 4], accessFlags := 1041 }

def heap : Heap := #[]
def classes : Array Class := #[k0, k1, k2, k3, k4, k5, k6, k7, k8]
def interned : List (Array UInt16 × Addr) := []
def slotsUsed : Nat := 0
def theMethod : MethodId := ⟨1, 1⟩
def args0 : Array Value := #[.int 5]
def aboutOver (below : List Frame) : State where
  vm := { classes := classes, interned := interned.toArray }
  heap := heap
  slotsUsed := slotsUsed
  threads := #[{ frames := .invoking theMethod args0 :: below }]
def below0 : List Frame := [.native { method := ⟨0, 0⟩, args := #[] }]
def about1 : State := aboutOver below0
def p0 : Program := .bare "" "" ""
def e0 : Env := launch0.env 0 0 0
theorem w_frames : about1.frames = Frame.invoking theMethod args0 :: below0 := rfl
set_option maxRecDepth 65536 in
theorem w_args : argsFit about1.vm theMethod args0 = true := by decide +kernel
set_option maxRecDepth 65536 in
theorem w_heap : heapFits about1 = true := by decide +kernel
set_option maxRecDepth 65536 in
theorem w_runnable : about1.curStatus? = some .runnable := by decide +kernel
set_option maxRecDepth 65536 in
theorem w_alone : about1.alone = true := by decide +kernel
set_option maxRecDepth 65536 in
theorem w_named : about1.methodNamed? x = some theMethod := by decide +kernel
set_option maxRecDepth 65536 in
theorem w_hears : about1.hears theMethod below0 = true := by decide +kernel
set_option maxRecDepth 65536 in
theorem w_ripe : about1.ripe theMethod args0 below0 = true := by decide +kernel
theorem w_running : about1.status = .running := rfl
set_option maxRecDepth 65536 in
theorem w_room : about1.hasRoom e0.platform room_1 = true :=
  launch0.hasRoom_least _ room_1 (by decide +kernel) (by decide +kernel) (by decide +kernel) (by decide +kernel) (by decide +kernel) (by decide +kernel)
theorem allAtoms_all (ts : List Jvm.Cond) (a : Array Jvm.Value) (st : Jvm.State) : (allAtoms ts).before a st = ts.all (fun c => c.before a st) := by
  induction ts with
  | nil => rfl
  | cons c t ih =>
    show (Jvm.Cond.and c (allAtoms t)).before a st = _
    rw [Jvm.Cond.before_and, ih, List.all_cons]
def words1 : List Jvm.Cond := Jvm.Cond.code x code maxLocals ret :: tables_1
/-- a 'code' word, met by the world's own term for the bytes: nothing is compared byte by byte -/
theorem code_word {y : MethodName} {bytes : ByteArray} {mx : Nat} {rt : Option FieldType} {a : Array Value} {s : State} {m : MethodId} {meth : Method} {c : Code} (h1 : s.methodNamed? y = some m) (h2 : s.vm.method? m = some meth) (h3 : meth.code = some c) (h4 : c.code = bytes)
    (h5 : (c.maxLocals == mx && c.exceptionTable.isEmpty && decide (c.maxStack ≤ mostOperands) && decide (meth.sig.returnType = rt) && !meth.locks && decide (parseMethodDescriptor y.desc = some meth.sig)) = true) : (Jvm.Cond.code y bytes mx rt).before a s = true := by
  simp only [Bool.and_eq_true, beq_iff_eq, Bool.not_eq_true', decide_eq_true_eq] at h5
  obtain ⟨⟨⟨⟨⟨g1, g2⟩, g3⟩, g4⟩, g5⟩, g6⟩ := h5
  simp [Cond.before, Cond.holds, Cond.value, h1, h2, h3, h4, g1, g2, g3, g4, g5, g6]
def isCode : Jvm.Cond → Bool
  | .code _ _ _ _ => true
  | _ => false
theorem all_split {L : List Jvm.Cond} {P : Jvm.Cond → Bool} (h1 : L.all (fun c => isCode c || P c) = true) (h2 : ∀ c ∈ L.filter isCode, P c = true) : L.all P = true := by
  refine List.all_eq_true.mpr fun c hc => ?_
  have h := List.all_eq_true.mp h1 c hc
  rcases Bool.eq_false_or_eq_true (isCode c) with hi | hi
  · exact h2 c (List.mem_filter.mpr ⟨hc, hi⟩)
  · simpa [hi] using h
set_option maxRecDepth 65536 in
theorem w_c0 : (Jvm.Cond.code x code maxLocals ret).before args0 about1 = true := code_word (m := ⟨1, 1⟩) (meth := k1m1) (c := k1c1) (by decide +kernel) rfl rfl rfl (by decide +kernel)
set_option maxRecDepth 65536 in
theorem w_c1 : (Jvm.Cond.code ({ cls := "com/example/orphean/orphean/Blowfish", name := "pack", desc := "(I)J" } : Jvm.MethodName) prog_9_method_2_code (1 : Nat) (Option.some Jvm.ClassFile.FieldType.long)).before args0 about1 = true := code_word (m := ⟨2, 1⟩) (meth := k2m1) (c := k2c1) (by decide +kernel) rfl rfl rfl (by decide +kernel)
def codes1 : List Jvm.Cond := [Jvm.Cond.code x code maxLocals ret, Jvm.Cond.code ({ cls := "com/example/orphean/orphean/Blowfish", name := "pack", desc := "(I)J" } : Jvm.MethodName) prog_9_method_2_code (1 : Nat) (Option.some Jvm.ClassFile.FieldType.long)]
set_option maxRecDepth 65536 in
theorem codes_eq : words1.filter isCode = codes1 := rfl
theorem w_codes : ∀ c ∈ words1.filter isCode, c.before args0 about1 = true := by
  rw [codes_eq]
  intro c hc
  simp only [codes1, List.mem_cons, List.not_mem_nil, or_false] at hc
  rcases hc with rfl | rfl
  · exact w_c0
  · exact w_c1
set_option maxRecDepth 65536 in
theorem w_t1 : words1.all (fun c => isCode c || c.before args0 about1) = true := by decide +kernel
theorem w_tables : (allAtoms (Jvm.Cond.code x code maxLocals ret :: tables_1)).before args0 about1 = true := by
  rw [allAtoms_all]
  show words1.all (fun c => c.before args0 about1) = true
  refine all_split ?_ w_codes
  rw [w_t1]
set_option maxRecDepth 65536 in
theorem w_case : (Jvm.Cond.and given_1 narrow_1).before args0 about1 = true := by decide +kernel
theorem w_applies : (headSpec (Jvm.Cond.code x code maxLocals ret :: tables_1) room_1).applies x e0.platform about1 = true :=
  (Spec.applies_iff w_frames).mpr ⟨w_running, w_runnable, w_alone, w_named, w_hears, w_ripe, w_room, w_tables⟩
theorem atStart : AtStart classFile x code maxLocals ret World_1 tables_1 room_1 Calls_1 rest_1 Pre_1 launch0 p0 e0 about1 theMethod args0 below0 :=
  ⟨lists_1, trivial, launch0.admits_env _ _ _, launch0.least_env, fairChoices_fair.cas, fairChoices_fair.clock, w_frames, w_args, w_heap, w_applies, trivial, trivial, w_case⟩
end start1
theorem witness_1 : WitnessClaimed_1 := ⟨start1.p0, start1.e0, start1.about1, start1.theMethod, start1.args0, start1.below0, start1.atStart⟩
end Jvm.Pilot.@@N@@
