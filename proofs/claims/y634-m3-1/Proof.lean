import JvmDerived
import JvmDerived.Pilot.@@N@@Statement
import JvmDerived.Pilot.@@N@@Code
set_option linter.unusedVariables false
set_option linter.unusedSimpArgs false
namespace Jvm.OwnKit
open Sem ClassFile Op Lib Jvm.Stand Jvm.Free Jvm.LawKit Jvm.RoadKit
/-! A small layer of my own over the library's laws: 'Goes': from this frame the body comes to its end; each law turned so that it reads backwards. -/
def Goes (tb : Tables) (e : Env) (below : List Frame) (Φ : Outcome → State → Prop) (T : State) (f : JFrame) : Prop :=
  ∃ s₂ o, Steps tb e below (T.setTop f) s₂ ∧ s₂.status = .running ∧ Ended s₂ below o ∧ Φ o s₂
def Fine (s : State) (n0 : Nat) (Q : Option Value → Heap → Prop) (rc rs : Nat) (o : Outcome) (U : State) : Prop :=
  ∃ v L, o = .returned v ∧ (Fr n0 L ∧ Q v U.heap) ∧ FrameEnd s o U L rc rs
def Base (p : Program) (s : State) (m : MethodId) (meth : Method) (c : Code) (Z : State) (y : MethodName) (bytes : ByteArray) (maxL : Nat) (ret : Option FieldType) : Prop :=
  p.tables.exec = Jvm.exec ∧ Z.Warmed39 s.vm ∧ c.code = bytes ∧ c.maxLocals = maxL ∧ s.vm.findClass y.cls = some m.cls ∧ meth.name = y.name ∧ meth.sig.returnType = ret ∧ meth.locks = false
def Sd (p : Program) (l : Launch) (e : Env) (R : Room) (s : State) (m : MethodId) (args : Array Value) (below : List Frame) (meth : Method) (c : Code) (T : State) (h : Heap) (n0 cells slots : Nat) : Prop :=
  ∃ locs, Stand p l e R s m args below meth c T locs cells slots ∧ T.heap = h ∧ Fr n0 locs ∧ n0 ≤ s.heap.size
def Con (l : Launch) (Z : State) (y : MethodName) (bytes : ByteArray) (maxL : Nat) (ret : Option FieldType) (rm : Room) (as' : Array Value) (h0 : Heap) (n0 : Nat) (Q : Option Value → Heap → Prop) : Prop :=
  n0 ≤ h0.size → ∀ ws : List Cond, MetFree l y (head1 (Cond.code y bytes maxL ret :: ws) rm) (fun a U => a = as' ∧ Z.Warmed39 U.vm ∧ U.heap = h0) (fun _ _ _ _ _ => True) (fun _ U o U' => ∃ v L, o = .returned v ∧ (Fr n0 L ∧ Q v U'.heap) ∧ FrameEnd U o U' L rm.cells rm.slots)
/-! a condition as 1 or 0 -/
def bi (P : Prop) [Decidable P] : Int32 := if P then 1 else 0
theorem bi_pos {P : Prop} [Decidable P] (h : P) : bi P = 1 := if_pos h
theorem bi_neg {P : Prop} [Decidable P] (h : ¬ P) : bi P = 0 := if_neg h
theorem bi_ne {P : Prop} [Decidable P] (h : P) : ¬ bi P = 0 := by rw [bi_pos h]; decide
theorem bi_congr {P P' : Prop} [Decidable P] [Decidable P'] (h : P ↔ P') : bi P = bi P' := by by_cases q : P <;> simp [bi, q, h.mp, ← h]
theorem bi_one {P : Prop} [Decidable P] : bi P = 1 ↔ P := by by_cases q : P <;> simp [bi, q]
theorem bi_zero {P : Prop} [Decidable P] : bi P = 0 ↔ ¬ P := by by_cases q : P <;> simp [bi, q]
theorem bi_inj {P P' : Prop} [Decidable P] [Decidable P'] : bi P = bi P' ↔ (P ↔ P') := by by_cases q : P <;> by_cases q' : P' <;> simp [bi, q, q']
theorem bi_or {P : Prop} [Decidable P] : bi P = 0 ∨ bi P = 1 := by by_cases q : P <;> simp [bi, q]
theorem nar_bi {P : Prop} [Decidable P] : nar .boolean (bi P) = bi P := by by_cases q : P <;> simp [bi, q, nar]
theorem fits_bi {P : Prop} [Decidable P] : fits .boolean (.int (bi P)) = true := by by_cases q : P <;> simp [bi, q] <;> decide
theorem narrow_bi {P : Prop} [Decidable P] : narrow .boolean (.int (bi P)) = .int (bi P) := by by_cases q : P <;> simp [bi, q] <;> rfl
section Lay
variable {p : Program} {l : Launch} {e : Env} {R : Room} {s : State} {m : MethodId} {args : Array Value} {below : List Frame} {meth : Method} {c : Code} {T : State} {h : Heap} {n0 cells slots : Nat} {Z : State} {a0 : Array Value} {Φ : Outcome → State → Prop} {y0 : MethodName} {bytes0 : ByteArray} {maxL0 : Nat} {ret0 : Option FieldType} {pc : Nat} {Ls : Array Slot} {st rest : List Value}
theorem Goes.go {tb : Tables} {T' : State} {f f' : JFrame} (k : ∀ t, Steps tb e below (T'.setTop f') t → Steps tb e below (T.setTop f) t) (g : Goes tb e below Φ T' f') : Goes tb e below Φ T f := by
  obtain ⟨s2, o, h1, h2⟩ := g
  exact ⟨s2, o, k _ h1, h2⟩
theorem Goes.dia {tb : Tables} {P : Prop} [Decidable P] {f : JFrame} {mk : Int32 → JFrame} (h1 : P → Goes tb e below Φ T (mk 1) → Goes tb e below Φ T f) (h0 : ¬ P → Goes tb e below Φ T (mk 0) → Goes tb e below Φ T f) (k : Goes tb e below Φ T (mk (bi P))) : Goes tb e below Φ T f := by
  by_cases q : P
  · rw [bi_pos q] at k; exact h1 q k
  · rw [bi_neg q] at k; exact h0 q k
theorem Goes.cast {tb : Tables} {f f' : JFrame} (q : f = f') (g : Goes tb e below Φ T f') : Goes tb e below Φ T f := q ▸ g
theorem Sd.here (S : Sd p l e R s m args below meth c T h n0 cells slots) : At T m c below := by obtain ⟨_, X, -⟩ := S; exact X.here
theorem Sd.le (S : Sd p l e R s m args below meth c T h n0 cells slots) : n0 ≤ h.size := by
  obtain ⟨_, X, e, -, q⟩ := S
  have h1 := X.same.2.1
  have h2 : s.heap.size ≤ T.heap.size := h1
  rw [e] at h2
  exact Nat.le_trans q h2
theorem Base.x (B : Base p s m meth c Z y0 bytes0 maxL0 ret0) : p.tables.exec = Jvm.exec := B.1
theorem Base.d (B : Base p s m meth c Z y0 bytes0 maxL0 ret0) {r : Except DecodeError (Instr × Nat)} (hd : decode bytes0 pc = r) : decode c.code pc = r := B.2.2.1 ▸ hd
theorem Con.body {y : MethodName} {bytes : ByteArray} {maxL : Nat} {ret : Option FieldType} {rm : Room} {as' : Array Value} {h0 : Heap} {Q : Option Value → Heap → Prop} (hpl : plainFor y = true)
    (k : ∀ (p : Program) (e : Env) (s : State) (m : MethodId) (below : List Frame) (meth : Method) (c : Code) (T : State), Base p s m meth c Z y bytes maxL ret → Sd p l e rm s m as' below meth c T h0 n0 0 0 → Goes p.tables e below (Fine s n0 Q rm.cells rm.slots) T (entryFrame m as' maxL)) :
    Con l Z y bytes maxL ret rm as' h0 n0 Q := by
  intro hn ws
  refine MetFree.of_bodySF hpl hisR ?_
  intro p e s m args below meth c s₁ Bd hml0 hP hK
  obtain ⟨rfl, hZ, hh⟩ := hP
  have e0 : s₁.heap = h0 := by rw [← hh, Bd.state]; rfl
  exact k p e s m below meth c s₁ ⟨Bd.exec, hZ, Bd.bytes, hml0, findClass_of_methodNamed Bd.named, (name_of_methodNamed Bd.named Bd.method).1, Bd.returns, Bd.notSynchronized⟩ ⟨[], Stand.of_body Bd, e0, Fr.nil n0, by rw [hh]; exact hn⟩
theorem Goes.acmp {cd : ACond} {x y : Value} {o : Int} {pc' : Nat} {same : Bool} (S : Sd p l e R s m args below meth c T h n0 cells slots) (B : Base p s m meth c Z y0 bytes0 maxL0 ret0) (h1 : x.isRef = true) (h2 : y.isRef = true) (hd : decode bytes0 pc = .ok (.if_acmp cd o, 3)) (hq : decide (x = y) = same) (ho : 0 ≤ (pc : Int) + o) (hp : pc' = if acV cd same = true then ((pc : Int) + o).toNat else pc + 3)
    (k : Goes p.tables e below Φ T (mkF m pc' Ls rest)) : Goes p.tables e below Φ T (mkF m pc Ls (y :: x :: rest)) := by
  obtain ⟨locs, X, eT, N, hn⟩ := S
  exact Goes.go (fun t => RoadKit.acmp X B.1 (g := mkF m pc Ls (y :: x :: rest)) rfl h1 h2 (pc0 := pc) (pc' := pc') (same := same) rfl (B.d hd) rfl hq ho hp) k
theorem Goes.pop2L {z : Int64} (S : Sd p l e R s m args below meth c T h n0 cells slots) (B : Base p s m meth c Z y0 bytes0 maxL0 ret0) (hd : decode bytes0 pc = .ok (.pop2, 1)) (k : Goes p.tables e below Φ T (mkF m (pc + 1) Ls rest)) : Goes p.tables e below Φ T (mkF m pc Ls (.long z :: rest)) := by
  obtain ⟨locs, X, eT, N, hn⟩ := S
  refine Goes.go (fun t kk => ?_) k
  have hx := B.1
  have hd' := B.d hd
  show Steps p.tables e below (T.setTop { method := m, pc := pc, locals := Ls, stack := _ :: rest, locked := none }) _
  jvm_step X.here [X.here.top, hx, hd', Value.category]
  exact kk
theorem Goes.irem {x y : Int32} (S : Sd p l e R s m args below meth c T h n0 cells slots) (B : Base p s m meth c Z y0 bytes0 maxL0 ret0) (hd : decode bytes0 pc = .ok (.irem, 1)) (hy : y ≠ 0) (k : Goes p.tables e below Φ T (mkF m (pc + 1) Ls (.int (x % y) :: rest))) : Goes p.tables e below Φ T (mkF m pc Ls (.int y :: .int x :: rest)) := by
  obtain ⟨locs, X, eT, N, hn⟩ := S
  exact Goes.go (fun t => RoadKit.iremM X B.1 (g := mkF m pc Ls (.int y :: .int x :: rest)) rfl (B.d hd) rfl hy) k
theorem Goes.lrem {x y : Int64} (S : Sd p l e R s m args below meth c T h n0 cells slots) (B : Base p s m meth c Z y0 bytes0 maxL0 ret0) (hd : decode bytes0 pc = .ok (.lrem, 1)) (hy : y ≠ 0) (k : Goes p.tables e below Φ T (mkF m (pc + 1) Ls (.long (x % y) :: rest))) : Goes p.tables e below Φ T (mkF m pc Ls (.long y :: .long x :: rest)) := by
  obtain ⟨locs, X, eT, N, hn⟩ := S
  refine Goes.go (fun t kk => XS.lrem X.here B.1 (g := mkF m pc Ls (.long y :: .long x :: rest)) rfl (B.d hd) rfl hy ?_) k
  rw [lrem_mod]
  exact kk
/-! the ends -/
section Ends
variable {Q : Option Value → Heap → Prop} {rc rs : Nat}
theorem Goes.retV (S : Sd p l e R s m args below meth c T h n0 cells slots) (B : Base p s m meth c Z y0 bytes0 maxL0 none) (hd : decode bytes0 pc = .ok (.return_, 1)) (hc : cells ≤ rc) (hs : slots ≤ rs) (hq : Q none h) :
    Goes p.tables e below (Fine s n0 Q rc rs) T (mkF m pc Ls []) := by
  obtain ⟨locs, X, eT, N, -⟩ := S
  obtain ⟨fs, hr, hrun, hended, hW, hsame⟩ := X.leave (v := none) (fun _ => rfl) B.2.2.2.2.2.2.2
  subst eT
  exact ⟨_, _, X.returnOut B.1 B.2.2.2.2.2.2.1 (B.d hd) hr, hrun, hended, _, _, rfl, ⟨N, hq⟩, ⟨_, rfl⟩, hW, hsame.mono hc hs⟩
theorem Goes.retN {t : FieldType} {z : Int32} (S : Sd p l e R s m args below meth c T h n0 cells slots) (B : Base p s m meth c Z y0 bytes0 maxL0 (some t)) (ht : t = .boolean ∨ t = .byte ∨ t = .char ∨ t = .short) (hd : decode bytes0 pc = .ok (.ireturn, 1)) (hc : cells ≤ rc) (hs : slots ≤ rs) (hq : Q (some (.int (nar t z))) h) :
    Goes p.tables e below (Fine s n0 Q rc rs) T (mkF m pc Ls (.int z :: rest)) := by
  obtain ⟨locs, X, eT, N, -⟩ := S
  obtain ⟨fs, hr, hrun, hended, hW, hsame⟩ := X.leave (v := some (.int (nar t z))) (fun h => by rw [B.2.2.2.2.2.2.1] at h; cases h) B.2.2.2.2.2.2.2
  subst eT
  exact ⟨_, _, RoadKit.retN X B.1 B.2.2.2.2.2.2.1 ht (B.d hd) hr, hrun, hended, _, _, rfl, ⟨N, hq⟩, ⟨_, rfl⟩, hW, hsame.mono hc hs⟩
theorem Goes.retI {z : Int32} (S : Sd p l e R s m args below meth c T h n0 cells slots) (B : Base p s m meth c Z y0 bytes0 maxL0 (some .int)) (hd : decode bytes0 pc = .ok (.ireturn, 1)) (hc : cells ≤ rc) (hs : slots ≤ rs) (hq : Q (some (.int z)) h) :
    Goes p.tables e below (Fine s n0 Q rc rs) T (mkF m pc Ls (.int z :: rest)) := by
  obtain ⟨locs, X, eT, N, -⟩ := S
  obtain ⟨fs, hr, hrun, hended, hW, hsame⟩ := X.leave (v := some (.int z)) (fun h => by rw [B.2.2.2.2.2.2.1] at h; cases h) B.2.2.2.2.2.2.2
  subst eT
  refine ⟨_, _, ?_, hrun, hended, _, _, rfl, ⟨N, hq⟩, ⟨_, rfl⟩, hW, hsame.mono hc hs⟩
  have hm' : T.vm.method? m = some meth := X.method'
  have hn : narrow .int (.int z) = .int z := rfl
  have hx := B.1
  have hret := B.2.2.2.2.2.2.1
  have hd' := B.d hd
  show Steps p.tables e below (T.setTop { method := m, pc := pc, locals := Ls, stack := _ :: rest, locked := none }) _
  jvm_step X.here [X.here.top, hx, hd', hm', hret, hn]
  first | (intro acts; rw [hr _ acts rfl rfl rfl]) | rw [hr _ _ rfl rfl rfl]
  exact Steps.refl _
theorem Goes.retL {z : Int64} (S : Sd p l e R s m args below meth c T h n0 cells slots) (B : Base p s m meth c Z y0 bytes0 maxL0 (some .long)) (hd : decode bytes0 pc = .ok (.lreturn, 1)) (hc : cells ≤ rc) (hs : slots ≤ rs) (hq : Q (some (.long z)) h) :
    Goes p.tables e below (Fine s n0 Q rc rs) T (mkF m pc Ls (.long z :: rest)) := by
  obtain ⟨locs, X, eT, N, -⟩ := S
  obtain ⟨fs, hr, hrun, hended, hW, hsame⟩ := X.leave (v := some (.long z)) (fun h => by rw [B.2.2.2.2.2.2.1] at h; cases h) B.2.2.2.2.2.2.2
  subst eT
  refine ⟨_, _, ?_, hrun, hended, _, _, rfl, ⟨N, hq⟩, ⟨_, rfl⟩, hW, hsame.mono hc hs⟩
  have hm' : T.vm.method? m = some meth := X.method'
  have hx := B.1
  have hret := B.2.2.2.2.2.2.1
  have hd' := B.d hd
  show Steps p.tables e below (T.setTop { method := m, pc := pc, locals := Ls, stack := _ :: rest, locked := none }) _
  jvm_step X.here [X.here.top, hx, hd', hm', hret, narrow]
  first | (intro acts; rw [hr _ acts rfl rfl rfl]) | rw [hr _ _ rfl rfl rfl]
  exact Steps.refl _
theorem Goes.retA {b : Addr} {t : FieldType} (S : Sd p l e R s m args below meth c T h n0 cells slots) (B : Base p s m meth c Z y0 bytes0 maxL0 (some t)) (ht : t.isReference = true) (hd : decode bytes0 pc = .ok (.areturn, 1)) (hc : cells ≤ rc) (hs : slots ≤ rs) (hq : Q (some (.ref b)) h) :
    Goes p.tables e below (Fine s n0 Q rc rs) T (mkF m pc Ls (.ref b :: rest)) := by
  obtain ⟨locs, X, eT, N, -⟩ := S
  obtain ⟨fs, hr, hrun, hended, hW, hsame⟩ := X.leave (v := some (.ref b)) (fun h => by rw [B.2.2.2.2.2.2.1] at h; cases h) B.2.2.2.2.2.2.2
  subst eT
  refine ⟨_, _, ?_, hrun, hended, _, _, rfl, ⟨N, hq⟩, ⟨_, rfl⟩, hW, hsame.mono hc hs⟩
  have hm' : T.vm.method? m = some meth := X.method'
  have hx := B.1
  have hret := B.2.2.2.2.2.2.1
  have hd' := B.d hd
  show Steps p.tables e below (T.setTop { method := m, pc := pc, locals := Ls, stack := _ :: rest, locked := none }) _
  jvm_step X.here [X.here.top, hx, hd', hm', hret, Value.isRef, ht]
  first | (intro acts; rw [hr _ acts rfl rfl rfl]) | rw [hr _ _ rfl rfl rfl]
  exact Steps.refl _
end Ends
/-! fields and objects -/
theorem Goes.getF {O n d : String} {index : Nat} {a : Addr} {v : Value} (S : Sd p l e R s m args below meth c T h n0 cells slots) (B : Base p s m meth c Z y0 bytes0 maxL0 ret0) (w : (Cond.fieldLink y0.cls index O n d).before a0 Z = true) (F : Fld Z h a O n d v) (hd : decode bytes0 pc = .ok (.getfield index, 3))
    (k : ∀ T', Sd p l e R s m args below meth c T' h n0 cells slots → Goes p.tables e below Φ T' (mkF m (pc + 3) Ls (v :: rest))) : Goes p.tables e below Φ T (mkF m pc Ls (.ref a :: rest)) := by
  obtain ⟨locs, X, eT, N, hn⟩ := S
  obtain ⟨T', X', e', stp⟩ := RoadKit.getF X B.1 B.2.1 B.2.2.2.2.1 (host := "") (Or.inl w) Via.refl eT F (g := mkF m pc Ls (.ref a :: rest)) rfl rfl (B.d hd)
  exact Goes.go stp (k T' ⟨locs, X', e', N, hn⟩)
theorem Goes.putF {O n d C : String} {index kk : Nat} {ty : FieldType} {a : Addr} {v v' old : Value} (S : Sd p l e R s m args below meth c T h n0 cells slots) (B : Base p s m meth c Z y0 bytes0 maxL0 ret0) (w : (Cond.fieldLink y0.cls index O n d).before a0 Z = true) (F : Fld Z h a O n d old) (E : Exa Z h a C)
    (L : (Cond.lays C O n d).before a0 Z = true ∨ ((Cond.laysFinal C O n d).before a0 Z = true ∧ y0.cls = O ∧ y0.name = "<init>")) (wi : (Cond.instantiable C kk).before a0 Z = true) (hty : parseFieldDescriptor d = some ty) (hnr : narrow ty v = v') (hf : fits ty v' = true) (ga : n0 ≤ a) (hd : decode bytes0 pc = .ok (.putfield index, 3))
    (k : ∀ T' h', Sd p l e R s m args below meth c T' h' n0 cells slots → Wr h h' a (RoadKit.slotOf Z O n d) v' → Goes p.tables e below Φ T' (mkF m (pc + 3) Ls rest)) : Goes p.tables e below Φ T (mkF m pc Ls (v :: .ref a :: rest)) := by
  obtain ⟨locs, X, eT, N, hn⟩ := S
  obtain ⟨T', h', X', e', W, stp⟩ := RoadKit.putFN X B.1 B.2.1 B.2.2.2.2.1 w Via.refl eT F E (L.imp id fun q => ⟨q.1, q.2.1, B.2.2.2.2.2.1.trans q.2.2⟩) wi hty hnr hf (g := mkF m pc Ls (v :: .ref a :: rest)) rfl rfl (B.d hd)
  exact Goes.go stp (k T' h' ⟨_, X', e', Fr.snoc X' N ga, hn⟩ W)
theorem Goes.newO {C : String} {index nn : Nat} (S : Sd p l e R s m args below meth c T h n0 cells slots) (B : Base p s m meth c Z y0 bytes0 maxL0 ret0) (w : (Cond.classLink y0.cls index C).before a0 Z = true) (wi : (Cond.instantiable C nn).before a0 Z = true) (wz : (Cond.initialized C).before a0 Z = true) (hd : decode bytes0 pc = .ok (.new index, 3)) (hc : cells + 1 ≤ R.cells) (hl : slots + nn ≤ R.slots)
    (k : ∀ T' h' b, Sd p l e R s m args below meth c T' h' n0 (cells + 1) (slots + nn) → Ext h h' → b = h.size → n0 ≤ b → Exa Z h' b C → (∀ {O nm d : String} {ty : FieldType}, Laid Z a0 C O nm d → parseFieldDescriptor d = some ty → Fld Z h' b O nm d (defaultValue ty)) → Goes p.tables e below Φ T' (mkF m (pc + 3) Ls (.ref b :: st))) :
    Goes p.tables e below Φ T (mkF m pc Ls st) := by
  have hle := S.le
  obtain ⟨locs, X, eT, N, hn⟩ := S
  obtain ⟨T', h', X', e', E, A, D, -, stp⟩ := RoadKit.newO X B.1 B.2.1 B.2.2.2.2.1 w wi wz eT (g := mkF m pc Ls st) rfl (B.d hd) hc hl
  exact Goes.go stp (k T' h' h.size ⟨locs, X', e', N, hn⟩ E rfl hle A D)
theorem Goes.initO {index : Nat} {a : Addr} {W : Nat} (S : Sd p l e R s m args below meth c T h n0 cells slots) (B : Base p s m meth c Z y0 bytes0 maxL0 ret0) (w1 : (Cond.methodLink y0.cls index Lib.objectInit).before a0 Z = true) (w2 : (Cond.instanceMethod Lib.objectInit).before a0 Z = true) (w3 : (Cond.code Lib.objectInit ⟨#[0xb1]⟩ 1 none).before a0 Z = true)
    (hd : decode bytes0 pc = .ok (.invokespecial index, 3)) (hsz : Ls.size = maxL0) (hf : 1 ≤ R.frames) (hW : 2 * 0 + (rest.map fun v => v.category).sum ≤ W) (hl : W + 12 ≤ R.locals)
    (k : ∀ T', Sd p l e R s m args below meth c T' h n0 cells slots → Goes p.tables e below Φ T' (mkF m (pc + 3) Ls rest)) : Goes p.tables e below Φ T (mkF m pc Ls (.ref a :: rest)) := by
  obtain ⟨locs, X, eT, N, hn⟩ := S
  obtain ⟨T', X', e', stp⟩ := RoadKit.initO X B.1 B.2.1 B.2.2.2.2.1 w1 w2 w3 eT (g := mkF m pc Ls (.ref a :: rest)) rfl (by rw [B.2.2.2.1]; exact hsz) rfl (B.d hd) hf hW hl
  exact Goes.go stp (k T' ⟨locs, X', e', N, hn⟩)
theorem Goes.ldcI {index : Nat} {v : Int32} (S : Sd p l e R s m args below meth c T h n0 cells slots) (B : Base p s m meth c Z y0 bytes0 maxL0 ret0) (w : (Cond.constant y0.cls index v).before a0 Z = true) (hd : decode bytes0 pc = .ok (.ldc index, 2)) (k : Goes p.tables e below Φ T (mkF m (pc + 2) Ls (.int v :: st))) : Goes p.tables e below Φ T (mkF m pc Ls st) := by
  obtain ⟨locs, X, eT, N, hn⟩ := S
  exact Goes.go (X.ldcInt B.1 B.2.2.2.2.1 (mvT B.2.1 w) (g := mkF m pc Ls st) rfl (B.d hd)) k
theorem Goes.ldcL {index : Nat} {v : Int64} (S : Sd p l e R s m args below meth c T h n0 cells slots) (B : Base p s m meth c Z y0 bytes0 maxL0 ret0) (w : (Cond.constantLong y0.cls index v).before a0 Z = true) (hd : decode bytes0 pc = .ok (.ldc2_w index, 3)) (k : Goes p.tables e below Φ T (mkF m (pc + 3) Ls (.long v :: st))) : Goes p.tables e below Φ T (mkF m pc Ls st) := by
  obtain ⟨locs, X, eT, N, hn⟩ := S
  exact Goes.go (X.ldc2Long B.1 B.2.2.2.2.1 (mvT B.2.1 w) (g := mkF m pc Ls st) rfl (B.d hd)) k
/-! calls -/
section Calls
variable {y : MethodName} {bytes : ByteArray} {maxL : Nat} {ret : Option FieldType} {rm : Room} {index W : Nat} {argsL : List Value} {Q : Option Value → Heap → Prop}
theorem Con.back {as' : Array Value} {len : Nat} (C : Con l Z y bytes maxL ret rm as' h n0 Q) (hn : n0 ≤ h.size) (hZ : Z.Warmed39 s.vm) (wc : (Cond.code y bytes maxL ret).before a0 Z = true) (wz : (Cond.initialized y.cls).before a0 Z = true) (hf : rm.frames + 1 ≤ R.frames) (hl : W + (maxL + 11) + rm.locals ≤ R.locals) :
    Back l R p e below s args y len W (fun A a => a = as' ∧ A.U.heap = h ∧ A.cells + rm.cells ≤ R.cells ∧ A.slots + rm.slots ≤ R.slots)
      (fun A _ v B => ∃ L, (Fr n0 L ∧ Q v B.U.heap) ∧ B.locs = A.locs ++ L ∧ B.cells = A.cells + rm.cells ∧ B.slots = A.slots + rm.slots) :=
  backOf (Q := fun v h L => Fr n0 L ∧ Q v h) (C hn []) hZ wc wz hf hl
theorem Goes.callS (S : Sd p l e R s m args below meth c T h n0 cells slots) (B : Base p s m meth c Z y0 bytes0 maxL0 ret0) (C : Con l Z y bytes maxL ret rm argsL.toArray h n0 Q) (wl : (Cond.methodLink y0.cls index y).before a0 Z = true) (ws : (Cond.static y).before a0 Z = true) (wi : (Cond.initialized y.cls).before a0 Z = true) (wc : (Cond.code y bytes maxL ret).before a0 Z = true)
    (hy : y.cls ≠ "java/lang/invoke/MethodHandle" ∧ y.cls ≠ "java/lang/invoke/VarHandle") (hf : rm.frames + 1 ≤ R.frames) (hlo : W + (maxL + 11) + rm.locals ≤ R.locals) (hc : cells + rm.cells ≤ R.cells) (hs : slots + rm.slots ≤ R.slots) (hsz : Ls.size = maxL0)
    (hlen : ∀ sig, parseMethodDescriptor y.desc = some sig → argsL.length = sig.parameters.length) (hst : st = argsL.reverse ++ rest) (hW : 2 * 0 + (rest.map fun v => v.category).sum ≤ W) (hd : decode bytes0 pc = .ok (.invokestatic index, 3))
    (k : ∀ v T' h', Sd p l e R s m args below meth c T' h' n0 (cells + rm.cells) (slots + rm.slots) → Q v h' → Goes p.tables e below Φ T' (mkF m (pc + 3) Ls (v.toList ++ rest))) : Goes p.tables e below Φ T (mkF m pc Ls st) := by
  have hle := S.le
  obtain ⟨locs, X, eT, N, hn⟩ := S
  subst hst
  obtain ⟨v, _, ⟨T', L', k', n'⟩, -, X', ⟨Lc, ⟨hN, hQ⟩, l1, y1, z1⟩, stp⟩ := Jvm.LawKit.callS X B.1 (y := y) B.2.2.2.2.1 (mvT B.2.1 wl) (mvT B.2.1 ws) (mvT B.2.1 wi) (mvT B.2.1 wc) hy (Con.back (W := W) C hle B.2.1 wc wi hf hlo) (g := mkF m pc Ls (argsL.reverse ++ rest)) rfl (by rw [B.2.2.2.1]; exact hsz) (argsL := argsL) (rest := rest) hlen rfl hW (B.d hd) (fun _ _ => ⟨rfl, eT, hc, hs⟩)
  dsimp only [Pt.U, Pt.locs, Pt.cells, Pt.slots] at X' l1 y1 z1 stp hQ
  subst l1 y1 z1
  exact Goes.go stp (k v T' T'.heap ⟨_, X', rfl, N.app hN, hn⟩ hQ)
theorem Goes.callI {b : Addr} (S : Sd p l e R s m args below meth c T h n0 cells slots) (B : Base p s m meth c Z y0 bytes0 maxL0 ret0) (C : Con l Z y bytes maxL none rm (.ref b :: argsL).toArray h n0 Q) (wl : (Cond.methodLink y0.cls index y).before a0 Z = true) (wim : (Cond.instanceMethod y).before a0 Z = true) (wi : (Cond.initialized y.cls).before a0 Z = true) (wc : (Cond.code y bytes maxL none).before a0 Z = true)
    (hy : y.cls ≠ "java/lang/invoke/MethodHandle" ∧ y.cls ≠ "java/lang/invoke/VarHandle") (hni : y.name = "<init>") (hf : rm.frames + 1 ≤ R.frames) (hlo : W + (maxL + 11) + rm.locals ≤ R.locals) (hc : cells + rm.cells ≤ R.cells) (hs : slots + rm.slots ≤ R.slots) (hsz : Ls.size = maxL0)
    (hlen : ∀ sig, parseMethodDescriptor y.desc = some sig → argsL.length = sig.parameters.length) (hst : st = argsL.reverse ++ .ref b :: rest) (hW : 2 * 0 + (rest.map fun v => v.category).sum ≤ W) (hd : decode bytes0 pc = .ok (.invokespecial index, 3))
    (k : ∀ v T' h', Sd p l e R s m args below meth c T' h' n0 (cells + rm.cells) (slots + rm.slots) → Q v h' → Goes p.tables e below Φ T' (mkF m (pc + 3) Ls (v.toList ++ rest))) : Goes p.tables e below Φ T (mkF m pc Ls st) := by
  have hle := S.le
  obtain ⟨locs, X, eT, N, hn⟩ := S
  subst hst
  obtain ⟨v, _, ⟨T', L', k', n'⟩, -, X', ⟨Lc, ⟨hN, hQ⟩, l1, y1, z1⟩, stp⟩ := X.specialBack B.1 (y := y) hni B.2.2.2.2.1 (mvT B.2.1 wl) (mvT B.2.1 wim) (mvT B.2.1 wc) hy (Con.back (W := W) C hle B.2.1 wc wi hf hlo) (g := mkF m pc Ls (argsL.reverse ++ .ref b :: rest)) rfl (by rw [B.2.2.2.1]; exact hsz) (Steps.refl _) (a := b) (argsL := argsL) (rest := rest) hlen rfl hW (B.d hd) (fun _ _ => ⟨rfl, eT, hc, hs⟩)
  dsimp only [Pt.U, Pt.locs, Pt.cells, Pt.slots] at X' l1 y1 z1 stp hQ
  subst l1 y1 z1
  exact Goes.go (fun t q => stp.trans q) (k v T' T'.heap ⟨_, X', rfl, N.app hN, hn⟩ hQ)
theorem Goes.callV {b : Addr} {K : String} (S : Sd p l e R s m args below meth c T h n0 cells slots) (B : Base p s m meth c Z y0 bytes0 maxL0 ret0) (C : Con l Z y bytes maxL ret rm (.ref b :: argsL).toArray h n0 Q) (E : Exa Z h b K) (wl : (Cond.methodLink y0.cls index y).before a0 Z = true) (wd : (Cond.declares y).before a0 Z = true) (wsel : (Cond.selects K y y).before a0 Z = true) (wim : (Cond.instanceMethod y).before a0 Z = true) (wi : (Cond.initialized y.cls).before a0 Z = true) (wc : (Cond.code y bytes maxL ret).before a0 Z = true)
    (hy : y.cls ≠ "java/lang/invoke/MethodHandle" ∧ y.cls ≠ "java/lang/invoke/VarHandle") (hf : rm.frames + 1 ≤ R.frames) (hlo : W + (maxL + 11) + rm.locals ≤ R.locals) (hc : cells + rm.cells ≤ R.cells) (hs : slots + rm.slots ≤ R.slots) (hsz : Ls.size = maxL0)
    (hlen : ∀ sig, parseMethodDescriptor y.desc = some sig → argsL.length = sig.parameters.length) (hst : st = argsL.reverse ++ .ref b :: rest) (hW : 2 * 0 + (rest.map fun v => v.category).sum ≤ W) (hd : decode bytes0 pc = .ok (.invokevirtual index, 3))
    (k : ∀ v T' h', Sd p l e R s m args below meth c T' h' n0 (cells + rm.cells) (slots + rm.slots) → Q v h' → Goes p.tables e below Φ T' (mkF m (pc + 3) Ls (v.toList ++ rest))) : Goes p.tables e below Φ T (mkF m pc Ls st) := by
  have hle := S.le
  obtain ⟨locs, X, eT, N, hn⟩ := S
  subst hst
  obtain ⟨cq, kq, qa, qb, qc⟩ := isOf B.2.1 eT E
  obtain ⟨v, _, ⟨T', L', k', n'⟩, -, X', ⟨Lc, ⟨hN, hQ⟩, l1, y1, z1⟩, stp⟩ := X.virtualBack B.1 (y := y) (z := y) B.2.2.2.2.1 (mvT B.2.1 wl) (mvT B.2.1 wd) (notFace_of_selects (args := #[]) (mvT B.2.1 wsel)) (mvT B.2.1 wsel) (mvT B.2.1 wim) hy (Con.back (W := W) C hle B.2.1 wc wi hf hlo) qa qc (g := mkF m pc Ls (argsL.reverse ++ .ref b :: rest)) rfl (by rw [B.2.2.2.1]; exact hsz) (Steps.refl _) (argsL := argsL) (rest := rest) hlen rfl hW (B.d hd) (fun _ _ => ⟨rfl, eT, hc, hs⟩)
  dsimp only [Pt.U, Pt.locs, Pt.cells, Pt.slots] at X' l1 y1 z1 stp hQ
  subst l1 y1 z1
  exact Goes.go (fun t q => stp.trans q) (k v T' T'.heap ⟨_, X', rfl, N.app hN, hn⟩ hQ)
theorem Goes.callP {b : Addr} {K : String} (S : Sd p l e R s m args below meth c T h n0 cells slots) (B : Base p s m meth c Z y0 bytes0 maxL0 ret0) (C : Con l Z y bytes maxL ret rm (.ref b :: argsL).toArray h n0 Q) (E : Exa Z h b K) (wl : (Cond.methodLink y0.cls index y).before a0 Z = true) (wp : (Cond.privateMethod y).before a0 Z = true) {kk : Nat} (wk : (Cond.instantiable y.cls kk).before a0 Z = true) (wim : (Cond.instanceMethod y).before a0 Z = true) (wi : (Cond.initialized y.cls).before a0 Z = true) (wc : (Cond.code y bytes maxL ret).before a0 Z = true)
    (hy : y.cls ≠ "java/lang/invoke/MethodHandle" ∧ y.cls ≠ "java/lang/invoke/VarHandle") (hf : rm.frames + 1 ≤ R.frames) (hlo : W + (maxL + 11) + rm.locals ≤ R.locals) (hc : cells + rm.cells ≤ R.cells) (hs : slots + rm.slots ≤ R.slots) (hsz : Ls.size = maxL0)
    (hlen : ∀ sig, parseMethodDescriptor y.desc = some sig → argsL.length = sig.parameters.length) (hst : st = argsL.reverse ++ .ref b :: rest) (hW : 2 * 0 + (rest.map fun v => v.category).sum ≤ W) (hd : decode bytes0 pc = .ok (.invokevirtual index, 3))
    (k : ∀ v T' h', Sd p l e R s m args below meth c T' h' n0 (cells + rm.cells) (slots + rm.slots) → Q v h' → Goes p.tables e below Φ T' (mkF m (pc + 3) Ls (v.toList ++ rest))) : Goes p.tables e below Φ T (mkF m pc Ls st) := by
  have hle := S.le
  obtain ⟨locs, X, eT, N, hn⟩ := S
  subst hst
  obtain ⟨cq, q1, q2⟩ := E.cell
  have hpr : s.PrivateAt y := Cond.privateMethod_at (mvP B.2.1 wp (args := #[]))
  have wsel : (Cond.selects y.cls y y).before args s = true := by
    obtain ⟨ci, ki, i1, i2, i3, i4, -⟩ := Cond.instantiable_spec (mvT B.2.1 wk (args := args))
    exact selects_self_of_private i1 i2 (Bool.or_eq_false_iff.mp i4).1 hpr (mvT B.2.1 wim) hy
  obtain ⟨v, _, ⟨T', L', k', n'⟩, -, X', ⟨Lc, ⟨hN, hQ⟩, l1, y1, z1⟩, stp⟩ := X.privateBack B.1 (y := y) B.2.2.2.2.1 (mvT B.2.1 wl) (mvT B.2.1 wim) wsel hpr (mvT B.2.1 wc) hy (Con.back (W := W) C hle B.2.1 wc wi hf hlo) (g := mkF m pc Ls (argsL.reverse ++ .ref b :: rest)) rfl (by rw [B.2.2.2.1]; exact hsz) (Steps.refl _) (a := b) (by rw [eT]; exact q1) q2 (argsL := argsL) (rest := rest) hlen rfl hW (B.d hd) (fun _ _ => ⟨rfl, eT, hc, hs⟩)
  dsimp only [Pt.U, Pt.locs, Pt.cells, Pt.slots] at X' l1 y1 z1 stp hQ
  subst l1 y1 z1
  exact Goes.go (fun t q => stp.trans q) (k v T' T'.heap ⟨_, X', rfl, N.app hN, hn⟩ hQ)
end Calls
/-! arrays: what lies at each place, as a function -/
def Ary (Z : State) (h : Heap) (a : Addr) (ty : FieldType) (n : Nat) (f : Nat → Value) : Prop := ∃ c : Cell, Arr Z h a c ty ∧ c.slots.size = n ∧ n < 2 ^ 31 ∧ ∀ i, i < n → c.slots[i]? = some (f i)
def aup {α : Type} (f : Nat → α) (i : Nat) (v : α) : Nat → α := fun k => if k = i then v else f k
theorem aup_int (g : Nat → Int32) (k : Nat) (x : Int32) : aup (fun i => Value.int (g i)) k (.int x) = fun i => .int (aup g k x i) := by
  funext i
  simp only [aup]
  split <;> rfl
theorem aup_long (g : Nat → Int64) (k : Nat) (x : Int64) : aup (fun i => Value.long (g i)) k (.long x) = fun i => .long (aup g k x i) := by
  funext i
  simp only [aup]
  split <;> rfl
section Arrays
variable {a b : Addr} {ty : FieldType} {n : Nat} {f : Nat → Value} {h' : Heap} {j : Int32} {v : Value} {sl : Nat} {ws : List Addr}
theorem Ary.lt (A : Ary Z h a ty n f) : a < h.size := by obtain ⟨c, A, -⟩ := A; exact A.lt
theorem Ary.ext (A : Ary Z h a ty n f) (E : Ext h h') : Ary Z h' a ty n f := by obtain ⟨c, A, r⟩ := A; exact ⟨c, A.ext E, r⟩
theorem Ary.other (A : Ary Z h b ty n f) (W : Wr h h' a sl v) (q : b ≠ a) : Ary Z h' b ty n f := by obtain ⟨c, A, r⟩ := A; exact ⟨c, A.other W q, r⟩
theorem Ary.keep (A : Ary Z h a ty n f) (K : Keep h h' ws) (q : a ∉ ws) : Ary Z h' a ty n f := by obtain ⟨c, A, r⟩ := A; exact ⟨c, ⟨K.2.1 a c A.1 q, A.2⟩, r⟩
theorem Ary.cast {g : Nat → Value} (A : Ary Z h a ty n f) (q : ∀ i, i < n → f i = g i) : Ary Z h a ty n g := by obtain ⟨c, A, r1, r2, r3⟩ := A; exact ⟨c, A, r1, r2, fun i hi => by rw [r3 i hi, q i hi]⟩
theorem Ary.new {z : Int32} {k : ClassId} (A : Arr Z h a (newA k ty z) ty) (q : ¬ z < 0) : Ary Z h a ty z.toNatClampNeg (fun _ => defaultValue ty) :=
  ⟨_, A, sz_new _ _ _, (back32 q).2, fun i hi => by simp [newA, hi]⟩
theorem Ary.set {i : Nat} (A : Ary Z h a ty n f) (W : Wr h h' a i v) (hi : i < n) : Ary Z h' a ty n (aup f i v) := by
  obtain ⟨c, A, r1, r2, r3⟩ := A
  refine ⟨_, A.same W, by rw [sz_set]; exact r1, r2, fun k hk => ?_⟩
  by_cases e : k = i
  · subst e
    simp [aup, Cell.setSlot, r1, hi]
  · have e' : i ≠ k := fun q => e q.symm
    simp only [aup, if_neg e, Cell.setSlot]
    rw [Array.getElem?_setIfInBounds_ne e']
    exact r3 k hk
theorem Goes.newP {aty : ArrayType} {z : Int32} {cap : Nat} (S : Sd p l e R s m args below meth c T h n0 cells slots) (B : Base p s m meth c Z y0 bytes0 maxL0 ret0) (w : (Cond.arrayClass (newarray.typeOf aty)).before a0 Z = true) (hd : decode bytes0 pc = .ok (.newarray aty, 2)) (hz : ¬ z < 0) (hcap : z.toNatClampNeg ≤ cap) (hb : cap * 8 ≤ 536870912) (hc : cells + 1 ≤ R.cells) (hl : slots + cap ≤ R.slots)
    (k : ∀ T' h' b, Sd p l e R s m args below meth c T' h' n0 (cells + 1) (slots + cap) → Ext h h' → b = h.size → n0 ≤ b → Ary Z h' b (newarray.typeOf aty) z.toNatClampNeg (fun _ => defaultValue (newarray.typeOf aty)) → Goes p.tables e below Φ T' (mkF m (pc + 2) Ls (.ref b :: rest))) :
    Goes p.tables e below Φ T (mkF m pc Ls (.int z :: rest)) := by
  have hle := S.le
  obtain ⟨locs, X, eT, N, hn⟩ := S
  obtain ⟨T', h', k', X', e', E, A, stp⟩ := RoadKit.newP X B.1 B.2.1 w eT (g := mkF m pc Ls (.int z :: rest)) rfl (B.d hd) rfl hz hcap hb hc hl
  exact Goes.go stp (k T' h' h.size ⟨locs, X', e', N, hn⟩ E rfl hle (Ary.new A hz))
theorem Goes.iaload (S : Sd p l e R s m args below meth c T h n0 cells slots) (B : Base p s m meth c Z y0 bytes0 maxL0 ret0) (A : Ary Z h a .int n f) (q0 : ¬ j < 0) (q1 : j.toNatClampNeg < n) (hd : decode bytes0 pc = .ok (.iaload, 1)) (hv : f j.toNatClampNeg = v) (k : Goes p.tables e below Φ T (mkF m (pc + 1) Ls (v :: rest))) : Goes p.tables e below Φ T (mkF m pc Ls (.int j :: .ref a :: rest)) := by
  obtain ⟨locs, X, eT, N, hn⟩ := S
  obtain ⟨cl, A, r1, r2, r3⟩ := A
  exact Goes.go (X.iaload B.1 (j := j) (v := v) (by rw [eT]; exact A.1) (State.isArrayOf_alike B.2.1.alike A.2.1) A.2.2 (by rw [r1]; exact fun z => z.elim q0 (Nat.not_le.mpr q1)) (by rw [r3 _ q1, hv]) (g := mkF m pc Ls (.int j :: .ref a :: rest)) rfl rfl (B.d hd)) k
theorem Goes.laload (S : Sd p l e R s m args below meth c T h n0 cells slots) (B : Base p s m meth c Z y0 bytes0 maxL0 ret0) (A : Ary Z h a .long n f) (q0 : ¬ j < 0) (q1 : j.toNatClampNeg < n) (hd : decode bytes0 pc = .ok (.laload, 1)) (hv : f j.toNatClampNeg = v) (k : Goes p.tables e below Φ T (mkF m (pc + 1) Ls (v :: rest))) : Goes p.tables e below Φ T (mkF m pc Ls (.int j :: .ref a :: rest)) := by
  obtain ⟨locs, X, eT, N, hn⟩ := S
  obtain ⟨cl, A, r1, r2, r3⟩ := A
  exact Goes.go (X.laload B.1 (j := j) (v := v) (by rw [eT]; exact A.1) (State.isArrayOf_alike B.2.1.alike A.2.1) A.2.2 (by rw [r1]; exact fun z => z.elim q0 (Nat.not_le.mpr q1)) (by rw [r3 _ q1, hv]) (g := mkF m pc Ls (.int j :: .ref a :: rest)) rfl rfl (B.d hd)) k
theorem Goes.baload (S : Sd p l e R s m args below meth c T h n0 cells slots) (B : Base p s m meth c Z y0 bytes0 maxL0 ret0) (A : Ary Z h a .byte n f) (q0 : ¬ j < 0) (q1 : j.toNatClampNeg < n) (hd : decode bytes0 pc = .ok (.baload, 1)) (hv : f j.toNatClampNeg = v) (k : Goes p.tables e below Φ T (mkF m (pc + 1) Ls (v :: rest))) : Goes p.tables e below Φ T (mkF m pc Ls (.int j :: .ref a :: rest)) := by
  obtain ⟨locs, X, eT, N, hn⟩ := S
  obtain ⟨cl, A, r1, r2, r3⟩ := A
  exact Goes.go (X.baloadBytes B.1 (j := j) (v := v) (by rw [eT]; exact A.1) (State.isArrayOf_alike B.2.1.alike A.2.1) A.2.2 (by rw [r1]; exact fun z => z.elim q0 (Nat.not_le.mpr q1)) (by rw [r3 _ q1, hv]) (g := mkF m pc Ls (.int j :: .ref a :: rest)) rfl rfl (B.d hd)) k
theorem Goes.zaload (S : Sd p l e R s m args below meth c T h n0 cells slots) (B : Base p s m meth c Z y0 bytes0 maxL0 ret0) (A : Ary Z h a .boolean n f) (q0 : ¬ j < 0) (q1 : j.toNatClampNeg < n) (hd : decode bytes0 pc = .ok (.baload, 1)) (hv : f j.toNatClampNeg = v) (k : Goes p.tables e below Φ T (mkF m (pc + 1) Ls (v :: rest))) : Goes p.tables e below Φ T (mkF m pc Ls (.int j :: .ref a :: rest)) := by
  obtain ⟨locs, X, eT, N, hn⟩ := S
  obtain ⟨cl, A, r1, r2, r3⟩ := A
  exact Goes.go (X.baloadBooleans B.1 (j := j) (v := v) (by rw [eT]; exact A.1) (State.isArrayOf_alike B.2.1.alike A.2.1) A.2.2 (by rw [r1]; exact fun z => z.elim q0 (Nat.not_le.mpr q1)) (by rw [r3 _ q1, hv]) (g := mkF m pc Ls (.int j :: .ref a :: rest)) rfl rfl (B.d hd)) k
theorem Goes.alen (S : Sd p l e R s m args below meth c T h n0 cells slots) (B : Base p s m meth c Z y0 bytes0 maxL0 ret0) (A : Ary Z h a ty n f) {z : Int32} (hz : n.toInt32 = z) (hd : decode bytes0 pc = .ok (.arraylength, 1)) (k : Goes p.tables e below Φ T (mkF m (pc + 1) Ls (.int z :: rest))) : Goes p.tables e below Φ T (mkF m pc Ls (.ref a :: rest)) := by
  obtain ⟨locs, X, eT, N, hn⟩ := S
  obtain ⟨cl, A, r1, r2, r3⟩ := A
  subst r1 hz
  exact Goes.go (X.arraylength B.1 (by rw [eT]; exact A.1) (State.isArrayOf_alike B.2.1.alike A.2.1) (g := mkF m pc Ls (.ref a :: rest)) rfl rfl (B.d hd)) k
theorem Goes.iastore {x : Int32} (S : Sd p l e R s m args below meth c T h n0 cells slots) (B : Base p s m meth c Z y0 bytes0 maxL0 ret0) (A : Ary Z h a .int n f) (q0 : ¬ j < 0) (q1 : j.toNatClampNeg < n) (ga : n0 ≤ a) (hd : decode bytes0 pc = .ok (.iastore, 1))
    (k : ∀ T' h', Sd p l e R s m args below meth c T' h' n0 cells slots → Wr h h' a j.toNatClampNeg (.int x) → Ary Z h' a .int n (aup f j.toNatClampNeg (.int x)) → Goes p.tables e below Φ T' (mkF m (pc + 1) Ls rest)) : Goes p.tables e below Φ T (mkF m pc Ls (.int x :: .int j :: .ref a :: rest)) := by
  obtain ⟨locs, X, eT, N, hn⟩ := S
  have A' := A
  obtain ⟨cl, A, r1, r2, r3⟩ := A
  obtain ⟨T', h', X', e', W, stp⟩ := RoadKit.stI X B.1 B.2.1 eT A (j := j) (by rw [r1]; exact fun z => z.elim q0 (Nat.not_le.mpr q1)) (g := mkF m pc Ls (.int x :: .int j :: .ref a :: rest)) rfl rfl (B.d hd)
  exact Goes.go stp (k T' h' ⟨_, X', e', Fr.snoc X' N ga, hn⟩ W (A'.set W q1))
theorem Goes.lastore {x : Int64} (S : Sd p l e R s m args below meth c T h n0 cells slots) (B : Base p s m meth c Z y0 bytes0 maxL0 ret0) (A : Ary Z h a .long n f) (q0 : ¬ j < 0) (q1 : j.toNatClampNeg < n) (ga : n0 ≤ a) (hd : decode bytes0 pc = .ok (.lastore, 1))
    (k : ∀ T' h', Sd p l e R s m args below meth c T' h' n0 cells slots → Wr h h' a j.toNatClampNeg (.long x) → Ary Z h' a .long n (aup f j.toNatClampNeg (.long x)) → Goes p.tables e below Φ T' (mkF m (pc + 1) Ls rest)) : Goes p.tables e below Φ T (mkF m pc Ls (.long x :: .int j :: .ref a :: rest)) := by
  obtain ⟨locs, X, eT, N, hn⟩ := S
  have A' := A
  obtain ⟨cl, A, r1, r2, r3⟩ := A
  obtain ⟨T', h', X', e', W, stp⟩ := RoadKit.stJ X B.1 B.2.1 eT A (j := j) (by rw [r1]; exact fun z => z.elim q0 (Nat.not_le.mpr q1)) (g := mkF m pc Ls (.long x :: .int j :: .ref a :: rest)) rfl rfl (B.d hd)
  exact Goes.go stp (k T' h' ⟨_, X', e', Fr.snoc X' N ga, hn⟩ W (A'.set W q1))
theorem Goes.bastore {x : Int32} (S : Sd p l e R s m args below meth c T h n0 cells slots) (B : Base p s m meth c Z y0 bytes0 maxL0 ret0) (A : Ary Z h a .byte n f) (q0 : ¬ j < 0) (q1 : j.toNatClampNeg < n) (ga : n0 ≤ a) (hd : decode bytes0 pc = .ok (.bastore, 1))
    (k : ∀ T' h', Sd p l e R s m args below meth c T' h' n0 cells slots → Wr h h' a j.toNatClampNeg (.int (nar .byte x)) → Ary Z h' a .byte n (aup f j.toNatClampNeg (.int (nar .byte x))) → Goes p.tables e below Φ T' (mkF m (pc + 1) Ls rest)) : Goes p.tables e below Φ T (mkF m pc Ls (.int x :: .int j :: .ref a :: rest)) := by
  obtain ⟨locs, X, eT, N, hn⟩ := S
  have A' := A
  obtain ⟨cl, A, r1, r2, r3⟩ := A
  obtain ⟨T', h', X', e', W, stp⟩ := RoadKit.stB X B.1 B.2.1 eT A (j := j) (by rw [r1]; exact fun z => z.elim q0 (Nat.not_le.mpr q1)) (g := mkF m pc Ls (.int x :: .int j :: .ref a :: rest)) rfl rfl (B.d hd)
  exact Goes.go stp (k T' h' ⟨_, X', e', Fr.snoc X' N ga, hn⟩ W (A'.set W q1))
theorem Goes.zastore {x : Int32} (S : Sd p l e R s m args below meth c T h n0 cells slots) (B : Base p s m meth c Z y0 bytes0 maxL0 ret0) (A : Ary Z h a .boolean n f) (q0 : ¬ j < 0) (q1 : j.toNatClampNeg < n) (ga : n0 ≤ a) (hd : decode bytes0 pc = .ok (.bastore, 1))
    (k : ∀ T' h', Sd p l e R s m args below meth c T' h' n0 cells slots → Wr h h' a j.toNatClampNeg (.int (nar .boolean x)) → Ary Z h' a .boolean n (aup f j.toNatClampNeg (.int (nar .boolean x))) → Goes p.tables e below Φ T' (mkF m (pc + 1) Ls rest)) : Goes p.tables e below Φ T (mkF m pc Ls (.int x :: .int j :: .ref a :: rest)) := by
  obtain ⟨locs, X, eT, N, hn⟩ := S
  have A' := A
  obtain ⟨cl, A, r1, r2, r3⟩ := A
  obtain ⟨T', h', X', e', W, stp⟩ := RoadKit.stZ X B.1 B.2.1 eT A (j := j) (by rw [r1]; exact fun z => z.elim q0 (Nat.not_le.mpr q1)) (g := mkF m pc Ls (.int x :: .int j :: .ref a :: rest)) rfl rfl (B.d hd)
  exact Goes.go stp (k T' h' ⟨_, X', e', Fr.snoc X' N ga, hn⟩ W (A'.set W q1))
end Arrays
end Lay
end Jvm.OwnKit
namespace Jvm.Pilot.@@N@@
open Jvm Jvm.ClassFile Sem Op Lib Jvm.Free Jvm.Stand Jvm.LawKit Jvm.RoadKit Jvm.OwnKit Bundle Jvm.Pilot.@@N@@.Jvm.D
theorem w0 {Z : State} {a0 : Array Value} (hw : ∀ d ∈ tables_1, d.before a0 Z = true) : ((Jvm.Cond.arrayClass Jvm.ClassFile.FieldType.byte) : Jvm.Cond).before a0 Z = true := hw _ (List.mem_of_getElem? (i := 0) rfl)
theorem w1 {Z : State} {a0 : Array Value} (hw : ∀ d ∈ tables_1, d.before a0 Z = true) : ((Jvm.Cond.constant "com/example/orphean/orphean/BlowfishCyclicWordsPinLaw" (9 : Nat) (2147483647 : Int32)) : Jvm.Cond).before a0 Z = true := hw _ (List.mem_of_getElem? (i := 1) rfl)
theorem w2 {Z : State} {a0 : Array Value} (hw : ∀ d ∈ tables_1, d.before a0 Z = true) : ((Jvm.Cond.methodLink "com/example/orphean/orphean/BlowfishCyclicWordsPinLaw" (10 : Nat) ({ cls := "com/example/orphean/orphean/Blowfish", name := "cyclicWords", desc := "([BIIZ)[I" } : Jvm.MethodName)) : Jvm.Cond).before a0 Z = true := hw _ (List.mem_of_getElem? (i := 2) rfl)
theorem w3 {Z : State} {a0 : Array Value} (hw : ∀ d ∈ tables_1, d.before a0 Z = true) : ((Jvm.Cond.static ({ cls := "com/example/orphean/orphean/Blowfish", name := "cyclicWords", desc := "([BIIZ)[I" } : Jvm.MethodName)) : Jvm.Cond).before a0 Z = true := hw _ (List.mem_of_getElem? (i := 3) rfl)
theorem w4 {Z : State} {a0 : Array Value} (hw : ∀ d ∈ tables_1, d.before a0 Z = true) : ((Jvm.Cond.initialized "com/example/orphean/orphean/Blowfish") : Jvm.Cond).before a0 Z = true := hw _ (List.mem_of_getElem? (i := 4) rfl)
theorem w5 {Z : State} {a0 : Array Value} (hw : ∀ d ∈ tables_1, d.before a0 Z = true) : ((Jvm.Cond.code ({ cls := "com/example/orphean/orphean/Blowfish", name := "cyclicWords", desc := "([BIIZ)[I" } : Jvm.MethodName) prog_9_method_4_code (6 : Nat) (Option.some (Jvm.ClassFile.FieldType.array Jvm.ClassFile.FieldType.int))) : Jvm.Cond).before a0 Z = true := hw _ (List.mem_of_getElem? (i := 5) rfl)
theorem w6 {Z : State} {a0 : Array Value} (hw : ∀ d ∈ tables_1, d.before a0 Z = true) : ((Jvm.Cond.arrayClass Jvm.ClassFile.FieldType.int) : Jvm.Cond).before a0 Z = true := hw _ (List.mem_of_getElem? (i := 6) rfl)
theorem w7 {Z : State} {a0 : Array Value} (hw : ∀ d ∈ tables_1, d.before a0 Z = true) : ((Jvm.Cond.methodLink "com/example/orphean/orphean/Blowfish" (23 : Nat) ({ cls := "com/example/orphean/orphean/Blowfish", name := "cyclicWord", desc := "([BIIZ)I" } : Jvm.MethodName)) : Jvm.Cond).before a0 Z = true := hw _ (List.mem_of_getElem? (i := 7) rfl)
theorem w8 {Z : State} {a0 : Array Value} (hw : ∀ d ∈ tables_1, d.before a0 Z = true) : ((Jvm.Cond.static ({ cls := "com/example/orphean/orphean/Blowfish", name := "cyclicWord", desc := "([BIIZ)I" } : Jvm.MethodName)) : Jvm.Cond).before a0 Z = true := hw _ (List.mem_of_getElem? (i := 8) rfl)
theorem w9 {Z : State} {a0 : Array Value} (hw : ∀ d ∈ tables_1, d.before a0 Z = true) : ((Jvm.Cond.code ({ cls := "com/example/orphean/orphean/Blowfish", name := "cyclicWord", desc := "([BIIZ)I" } : Jvm.MethodName) prog_9_method_6_code (7 : Nat) (Option.some Jvm.ClassFile.FieldType.int)) : Jvm.Cond).before a0 Z = true := hw _ (List.mem_of_getElem? (i := 9) rfl)
theorem w10 {Z : State} {a0 : Array Value} (hw : ∀ d ∈ tables_1, d.before a0 Z = true) : ((Jvm.Cond.methodLink "com/example/orphean/orphean/BlowfishCyclicWordsPinLaw" (16 : Nat) ({ cls := "com/example/orphean/orphean/BlowfishCyclicWordsPinLaw", name := "expected", desc := "([BIIZ)I" } : Jvm.MethodName)) : Jvm.Cond).before a0 Z = true := hw _ (List.mem_of_getElem? (i := 10) rfl)
theorem w11 {Z : State} {a0 : Array Value} (hw : ∀ d ∈ tables_1, d.before a0 Z = true) : ((Jvm.Cond.static ({ cls := "com/example/orphean/orphean/BlowfishCyclicWordsPinLaw", name := "expected", desc := "([BIIZ)I" } : Jvm.MethodName)) : Jvm.Cond).before a0 Z = true := hw _ (List.mem_of_getElem? (i := 11) rfl)
theorem w12 {Z : State} {a0 : Array Value} (hw : ∀ d ∈ tables_1, d.before a0 Z = true) : ((Jvm.Cond.initialized "com/example/orphean/orphean/BlowfishCyclicWordsPinLaw") : Jvm.Cond).before a0 Z = true := hw _ (List.mem_of_getElem? (i := 12) rfl)
theorem w13 {Z : State} {a0 : Array Value} (hw : ∀ d ∈ tables_1, d.before a0 Z = true) : ((Jvm.Cond.code ({ cls := "com/example/orphean/orphean/BlowfishCyclicWordsPinLaw", name := "expected", desc := "([BIIZ)I" } : Jvm.MethodName) method_2_code (10 : Nat) (Option.some Jvm.ClassFile.FieldType.int)) : Jvm.Cond).before a0 Z = true := hw _ (List.mem_of_getElem? (i := 13) rfl)
theorem w14 {Z : State} {a0 : Array Value} (hw : ∀ d ∈ tables_1, d.before a0 Z = true) : ((Jvm.Cond.constant "com/example/orphean/orphean/BlowfishCyclicWordsPinLaw" (7 : Nat) (-16777216 : Int32)) : Jvm.Cond).before a0 Z = true := hw _ (List.mem_of_getElem? (i := 14) rfl)
theorem w15 {Z : State} {a0 : Array Value} (hw : ∀ d ∈ tables_1, d.before a0 Z = true) : ((Jvm.Cond.constant "com/example/orphean/orphean/BlowfishCyclicWordsPinLaw" (8 : Nat) (-65536 : Int32)) : Jvm.Cond).before a0 Z = true := hw _ (List.mem_of_getElem? (i := 15) rfl)
theorem d_prog_9_method_6_0 : decode prog_9_method_6_code 0 = .ok (.iconst 0, 1) := by decide +kernel
theorem d_prog_9_method_6_1 : decode prog_9_method_6_code 1 = .ok (.istore 4, 2) := by decide +kernel
theorem d_prog_9_method_6_3 : decode prog_9_method_6_code 3 = .ok (.iconst 0, 1) := by decide +kernel
theorem d_prog_9_method_6_4 : decode prog_9_method_6_code 4 = .ok (.istore 5, 2) := by decide +kernel
theorem d_prog_9_method_6_6 : decode prog_9_method_6_code 6 = .ok (.iload 5, 2) := by decide +kernel
theorem d_prog_9_method_6_8 : decode prog_9_method_6_code 8 = .ok (.iconst 4, 1) := by decide +kernel
theorem d_prog_9_method_6_9 : decode prog_9_method_6_code 9 = .ok (.if_icmp .ge 44, 3) := by decide +kernel
theorem d_prog_9_method_6_12 : decode prog_9_method_6_code 12 = .ok (.aload_n 0, 1) := by decide +kernel
theorem d_prog_9_method_6_13 : decode prog_9_method_6_code 13 = .ok (.iconst 4, 1) := by decide +kernel
theorem d_prog_9_method_6_14 : decode prog_9_method_6_code 14 = .ok (.iload_n 2, 1) := by decide +kernel
theorem d_prog_9_method_6_15 : decode prog_9_method_6_code 15 = .ok (.imul, 1) := by decide +kernel
theorem d_prog_9_method_6_16 : decode prog_9_method_6_code 16 = .ok (.iload 5, 2) := by decide +kernel
theorem d_prog_9_method_6_18 : decode prog_9_method_6_code 18 = .ok (.iadd, 1) := by decide +kernel
theorem d_prog_9_method_6_19 : decode prog_9_method_6_code 19 = .ok (.iload_n 1, 1) := by decide +kernel
theorem d_prog_9_method_6_20 : decode prog_9_method_6_code 20 = .ok (.irem, 1) := by decide +kernel
theorem d_prog_9_method_6_21 : decode prog_9_method_6_code 21 = .ok (.baload, 1) := by decide +kernel
theorem d_prog_9_method_6_22 : decode prog_9_method_6_code 22 = .ok (.istore 6, 2) := by decide +kernel
theorem d_prog_9_method_6_24 : decode prog_9_method_6_code 24 = .ok (.iload 4, 2) := by decide +kernel
theorem d_prog_9_method_6_26 : decode prog_9_method_6_code 26 = .ok (.bipush 8, 2) := by decide +kernel
theorem d_prog_9_method_6_28 : decode prog_9_method_6_code 28 = .ok (.ishl, 1) := by decide +kernel
theorem d_prog_9_method_6_29 : decode prog_9_method_6_code 29 = .ok (.iload_n 3, 1) := by decide +kernel
theorem d_prog_9_method_6_30 : decode prog_9_method_6_code 30 = .ok (.ifCond .eq 8, 3) := by decide +kernel
theorem d_prog_9_method_6_38 : decode prog_9_method_6_code 38 = .ok (.iload 6, 2) := by decide +kernel
theorem d_prog_9_method_6_40 : decode prog_9_method_6_code 40 = .ok (.sipush 255, 3) := by decide +kernel
theorem d_prog_9_method_6_43 : decode prog_9_method_6_code 43 = .ok (.iand, 1) := by decide +kernel
theorem d_prog_9_method_6_44 : decode prog_9_method_6_code 44 = .ok (.ior, 1) := by decide +kernel
theorem d_prog_9_method_6_45 : decode prog_9_method_6_code 45 = .ok (.istore 4, 2) := by decide +kernel
theorem d_prog_9_method_6_47 : decode prog_9_method_6_code 47 = .ok (.iinc 5 1, 3) := by decide +kernel
theorem d_prog_9_method_6_50 : decode prog_9_method_6_code 50 = .ok (.goto (-44), 3) := by decide +kernel
theorem d_prog_9_method_6_53 : decode prog_9_method_6_code 53 = .ok (.iload 4, 2) := by decide +kernel
theorem d_prog_9_method_6_55 : decode prog_9_method_6_code 55 = .ok (.ireturn, 1) := by decide +kernel
theorem d_prog_9_method_6_33 : decode prog_9_method_6_code 33 = .ok (.iload 6, 2) := by decide +kernel
theorem d_prog_9_method_6_35 : decode prog_9_method_6_code 35 = .ok (.goto 9, 3) := by decide +kernel
theorem d_method_2_0 : decode method_2_code 0 = .ok (.aload_n 0, 1) := by decide +kernel
theorem d_method_2_1 : decode method_2_code 1 = .ok (.iconst 4, 1) := by decide +kernel
theorem d_method_2_2 : decode method_2_code 2 = .ok (.iload_n 2, 1) := by decide +kernel
theorem d_method_2_3 : decode method_2_code 3 = .ok (.imul, 1) := by decide +kernel
theorem d_method_2_4 : decode method_2_code 4 = .ok (.iload_n 1, 1) := by decide +kernel
theorem d_method_2_5 : decode method_2_code 5 = .ok (.irem, 1) := by decide +kernel
theorem d_method_2_6 : decode method_2_code 6 = .ok (.baload, 1) := by decide +kernel
theorem d_method_2_7 : decode method_2_code 7 = .ok (.istore 4, 2) := by decide +kernel
theorem d_method_2_9 : decode method_2_code 9 = .ok (.aload_n 0, 1) := by decide +kernel
theorem d_method_2_10 : decode method_2_code 10 = .ok (.iconst 4, 1) := by decide +kernel
theorem d_method_2_11 : decode method_2_code 11 = .ok (.iload_n 2, 1) := by decide +kernel
theorem d_method_2_12 : decode method_2_code 12 = .ok (.imul, 1) := by decide +kernel
theorem d_method_2_13 : decode method_2_code 13 = .ok (.iconst 1, 1) := by decide +kernel
theorem d_method_2_14 : decode method_2_code 14 = .ok (.iadd, 1) := by decide +kernel
theorem d_method_2_15 : decode method_2_code 15 = .ok (.iload_n 1, 1) := by decide +kernel
theorem d_method_2_16 : decode method_2_code 16 = .ok (.irem, 1) := by decide +kernel
theorem d_method_2_17 : decode method_2_code 17 = .ok (.baload, 1) := by decide +kernel
theorem d_method_2_18 : decode method_2_code 18 = .ok (.istore 5, 2) := by decide +kernel
theorem d_method_2_20 : decode method_2_code 20 = .ok (.aload_n 0, 1) := by decide +kernel
theorem d_method_2_21 : decode method_2_code 21 = .ok (.iconst 4, 1) := by decide +kernel
theorem d_method_2_22 : decode method_2_code 22 = .ok (.iload_n 2, 1) := by decide +kernel
theorem d_method_2_23 : decode method_2_code 23 = .ok (.imul, 1) := by decide +kernel
theorem d_method_2_24 : decode method_2_code 24 = .ok (.iconst 2, 1) := by decide +kernel
theorem d_method_2_25 : decode method_2_code 25 = .ok (.iadd, 1) := by decide +kernel
theorem d_method_2_26 : decode method_2_code 26 = .ok (.iload_n 1, 1) := by decide +kernel
theorem d_method_2_27 : decode method_2_code 27 = .ok (.irem, 1) := by decide +kernel
theorem d_method_2_28 : decode method_2_code 28 = .ok (.baload, 1) := by decide +kernel
theorem d_method_2_29 : decode method_2_code 29 = .ok (.istore 6, 2) := by decide +kernel
theorem d_method_2_31 : decode method_2_code 31 = .ok (.aload_n 0, 1) := by decide +kernel
theorem d_method_2_32 : decode method_2_code 32 = .ok (.iconst 4, 1) := by decide +kernel
theorem d_method_2_33 : decode method_2_code 33 = .ok (.iload_n 2, 1) := by decide +kernel
theorem d_method_2_34 : decode method_2_code 34 = .ok (.imul, 1) := by decide +kernel
theorem d_method_2_35 : decode method_2_code 35 = .ok (.iconst 3, 1) := by decide +kernel
theorem d_method_2_36 : decode method_2_code 36 = .ok (.iadd, 1) := by decide +kernel
theorem d_method_2_37 : decode method_2_code 37 = .ok (.iload_n 1, 1) := by decide +kernel
theorem d_method_2_38 : decode method_2_code 38 = .ok (.irem, 1) := by decide +kernel
theorem d_method_2_39 : decode method_2_code 39 = .ok (.baload, 1) := by decide +kernel
theorem d_method_2_40 : decode method_2_code 40 = .ok (.istore 7, 2) := by decide +kernel
theorem d_method_2_42 : decode method_2_code 42 = .ok (.iload 4, 2) := by decide +kernel
theorem d_method_2_44 : decode method_2_code 44 = .ok (.sipush 255, 3) := by decide +kernel
theorem d_method_2_47 : decode method_2_code 47 = .ok (.iand, 1) := by decide +kernel
theorem d_method_2_48 : decode method_2_code 48 = .ok (.bipush 24, 2) := by decide +kernel
theorem d_method_2_50 : decode method_2_code 50 = .ok (.ishl, 1) := by decide +kernel
theorem d_method_2_51 : decode method_2_code 51 = .ok (.iload 5, 2) := by decide +kernel
theorem d_method_2_53 : decode method_2_code 53 = .ok (.sipush 255, 3) := by decide +kernel
theorem d_method_2_56 : decode method_2_code 56 = .ok (.iand, 1) := by decide +kernel
theorem d_method_2_57 : decode method_2_code 57 = .ok (.bipush 16, 2) := by decide +kernel
theorem d_method_2_59 : decode method_2_code 59 = .ok (.ishl, 1) := by decide +kernel
theorem d_method_2_60 : decode method_2_code 60 = .ok (.ior, 1) := by decide +kernel
theorem d_method_2_61 : decode method_2_code 61 = .ok (.iload 6, 2) := by decide +kernel
theorem d_method_2_63 : decode method_2_code 63 = .ok (.sipush 255, 3) := by decide +kernel
theorem d_method_2_66 : decode method_2_code 66 = .ok (.iand, 1) := by decide +kernel
theorem d_method_2_67 : decode method_2_code 67 = .ok (.bipush 8, 2) := by decide +kernel
theorem d_method_2_69 : decode method_2_code 69 = .ok (.ishl, 1) := by decide +kernel
theorem d_method_2_70 : decode method_2_code 70 = .ok (.ior, 1) := by decide +kernel
theorem d_method_2_71 : decode method_2_code 71 = .ok (.iload 7, 2) := by decide +kernel
theorem d_method_2_73 : decode method_2_code 73 = .ok (.sipush 255, 3) := by decide +kernel
theorem d_method_2_76 : decode method_2_code 76 = .ok (.iand, 1) := by decide +kernel
theorem d_method_2_77 : decode method_2_code 77 = .ok (.ior, 1) := by decide +kernel
theorem d_method_2_78 : decode method_2_code 78 = .ok (.istore 8, 2) := by decide +kernel
theorem d_method_2_80 : decode method_2_code 80 = .ok (.iload_n 3, 1) := by decide +kernel
theorem d_method_2_81 : decode method_2_code 81 = .ok (.ifCond .ne 6, 3) := by decide +kernel
theorem d_method_2_84 : decode method_2_code 84 = .ok (.iload 8, 2) := by decide +kernel
theorem d_method_2_86 : decode method_2_code 86 = .ok (.ireturn, 1) := by decide +kernel
theorem d_method_2_87 : decode method_2_code 87 = .ok (.iconst 0, 1) := by decide +kernel
theorem d_method_2_88 : decode method_2_code 88 = .ok (.istore 9, 2) := by decide +kernel
theorem d_method_2_90 : decode method_2_code 90 = .ok (.iload 5, 2) := by decide +kernel
theorem d_method_2_92 : decode method_2_code 92 = .ok (.ifCond .ge 10, 3) := by decide +kernel
theorem d_method_2_95 : decode method_2_code 95 = .ok (.iload 9, 2) := by decide +kernel
theorem d_method_2_97 : decode method_2_code 97 = .ok (.ldc 7, 2) := by decide +kernel
theorem d_method_2_99 : decode method_2_code 99 = .ok (.ior, 1) := by decide +kernel
theorem d_method_2_100 : decode method_2_code 100 = .ok (.istore 9, 2) := by decide +kernel
theorem d_method_2_102 : decode method_2_code 102 = .ok (.iload 6, 2) := by decide +kernel
theorem d_method_2_104 : decode method_2_code 104 = .ok (.ifCond .ge 10, 3) := by decide +kernel
theorem d_method_2_107 : decode method_2_code 107 = .ok (.iload 9, 2) := by decide +kernel
theorem d_method_2_109 : decode method_2_code 109 = .ok (.ldc 8, 2) := by decide +kernel
theorem d_method_2_111 : decode method_2_code 111 = .ok (.ior, 1) := by decide +kernel
theorem d_method_2_112 : decode method_2_code 112 = .ok (.istore 9, 2) := by decide +kernel
theorem d_method_2_114 : decode method_2_code 114 = .ok (.iload 7, 2) := by decide +kernel
theorem d_method_2_116 : decode method_2_code 116 = .ok (.ifCond .ge 11, 3) := by decide +kernel
theorem d_method_2_119 : decode method_2_code 119 = .ok (.iload 9, 2) := by decide +kernel
theorem d_method_2_121 : decode method_2_code 121 = .ok (.sipush (-256), 3) := by decide +kernel
theorem d_method_2_124 : decode method_2_code 124 = .ok (.ior, 1) := by decide +kernel
theorem d_method_2_125 : decode method_2_code 125 = .ok (.istore 9, 2) := by decide +kernel
theorem d_method_2_127 : decode method_2_code 127 = .ok (.iload 8, 2) := by decide +kernel
theorem d_method_2_129 : decode method_2_code 129 = .ok (.iload 9, 2) := by decide +kernel
theorem d_method_2_131 : decode method_2_code 131 = .ok (.ior, 1) := by decide +kernel
theorem d_method_2_132 : decode method_2_code 132 = .ok (.ireturn, 1) := by decide +kernel
theorem d_prog_9_method_4_0 : decode prog_9_method_4_code 0 = .ok (.iload_n 2, 1) := by decide +kernel
theorem d_prog_9_method_4_1 : decode prog_9_method_4_code 1 = .ok (.newarray .int, 2) := by decide +kernel
theorem d_prog_9_method_4_3 : decode prog_9_method_4_code 3 = .ok (.astore 4, 2) := by decide +kernel
theorem d_prog_9_method_4_5 : decode prog_9_method_4_code 5 = .ok (.iconst 0, 1) := by decide +kernel
theorem d_prog_9_method_4_6 : decode prog_9_method_4_code 6 = .ok (.istore 5, 2) := by decide +kernel
theorem d_prog_9_method_4_8 : decode prog_9_method_4_code 8 = .ok (.iload 5, 2) := by decide +kernel
theorem d_prog_9_method_4_10 : decode prog_9_method_4_code 10 = .ok (.iload_n 2, 1) := by decide +kernel
theorem d_prog_9_method_4_11 : decode prog_9_method_4_code 11 = .ok (.if_icmp .ge 22, 3) := by decide +kernel
theorem d_prog_9_method_4_33 : decode prog_9_method_4_code 33 = .ok (.aload 4, 2) := by decide +kernel
theorem d_prog_9_method_4_35 : decode prog_9_method_4_code 35 = .ok (.areturn, 1) := by decide +kernel
theorem d_prog_9_method_4_14 : decode prog_9_method_4_code 14 = .ok (.aload 4, 2) := by decide +kernel
theorem d_prog_9_method_4_16 : decode prog_9_method_4_code 16 = .ok (.iload 5, 2) := by decide +kernel
theorem d_prog_9_method_4_18 : decode prog_9_method_4_code 18 = .ok (.aload_n 0, 1) := by decide +kernel
theorem d_prog_9_method_4_19 : decode prog_9_method_4_code 19 = .ok (.iload_n 1, 1) := by decide +kernel
theorem d_prog_9_method_4_20 : decode prog_9_method_4_code 20 = .ok (.iload 5, 2) := by decide +kernel
theorem d_prog_9_method_4_22 : decode prog_9_method_4_code 22 = .ok (.iload_n 3, 1) := by decide +kernel
theorem d_prog_9_method_4_23 : decode prog_9_method_4_code 23 = .ok (.invokestatic 23, 3) := by decide +kernel
theorem d_prog_9_method_4_26 : decode prog_9_method_4_code 26 = .ok (.iastore, 1) := by decide +kernel
theorem d_prog_9_method_4_27 : decode prog_9_method_4_code 27 = .ok (.iinc 5 1, 3) := by decide +kernel
theorem d_prog_9_method_4_30 : decode prog_9_method_4_code 30 = .ok (.goto (-22), 3) := by decide +kernel
theorem pd_0 : parseMethodDescriptor "([BIIZ)I" = some ⟨[(.array .byte), .int, .int, .boolean], some .int⟩ := by decide +kernel
theorem pd_1 : parseMethodDescriptor "([BIIZ)[I" = some ⟨[(.array .byte), .int, .int, .boolean], some (.array .int)⟩ := by decide +kernel
theorem pn_0 : plainName "com/example/orphean/orphean/Blowfish" = true := by first | (simp [plainName, overriddenIn]; done) | decide +kernel
theorem pn_1 : plainName "com/example/orphean/orphean/BlowfishCyclicWordsPinLaw" = true := by first | (simp [plainName, overriddenIn]; done) | decide +kernel
theorem n_inj32 {x y : Int32} (h : x.toBitVec.toNat = y.toBitVec.toNat) : x = y := Int32.toBitVec_inj.mp (BitVec.eq_of_toNat_eq h)
theorem n_inj64 {x y : Int64} (h : x.toBitVec.toNat = y.toBitVec.toNat) : x = y := Int64.toBitVec_inj.mp (BitVec.eq_of_toNat_eq h)
theorem or_add (a b k : Nat) (h : b < 2 ^ k) : a * 2 ^ k ||| b = a * 2 ^ k + b := by
  rw [← Nat.shiftLeft_eq, Nat.shiftLeft_add_eq_or_of_lt h]
theorem n_or (x y : Int64) : (x ||| y).toBitVec.toNat = x.toBitVec.toNat ||| y.toBitVec.toNat := by rw [Int64.toBitVec_or, BitVec.toNat_or]
theorem n_or32 (x y : Int32) : (x ||| y).toBitVec.toNat = x.toBitVec.toNat ||| y.toBitVec.toNat := by rw [Int32.toBitVec_or, BitVec.toNat_or]
theorem n_maskL (x m : Int64) (k : Nat) (hk : k ≤ 64) (hm : m.toBitVec.toNat = 2 ^ k - 1) : (x &&& m).toBitVec.toNat = x.toBitVec.toNat % 2 ^ k := by
  rw [Int64.toBitVec_and, BitVec.toNat_and, hm, Nat.and_two_pow_sub_one_eq_mod]
theorem n_mask (x m : Int32) (k : Nat) (hk : k ≤ 32) (hm : m.toBitVec.toNat = 2 ^ k - 1) : (x &&& m).toBitVec.toNat = x.toBitVec.toNat % 2 ^ k := by
  rw [Int32.toBitVec_and, BitVec.toNat_and, hm, Nat.and_two_pow_sub_one_eq_mod]
theorem n_shl (x q : Int64) (k : Nat) (hk : (q.toBitVec.smod 64).toNat = k) : (x <<< q).toBitVec.toNat = x.toBitVec.toNat * 2 ^ k % 2 ^ 64 := by
  rw [Int64.toBitVec_shiftLeft, BitVec.shiftLeft_eq', BitVec.toNat_shiftLeft, Nat.shiftLeft_eq, hk]
theorem n_lushr (x : Int64) (q : UInt64) (k : Nat) (hk : q.toNat % 64 = k) : ((x.toUInt64 >>> q).toInt64).toBitVec.toNat = x.toBitVec.toNat / 2 ^ k := by
  show (x.toUInt64 >>> q).toNat = _
  rw [UInt64.toNat_shiftRight, hk, Nat.shiftRight_eq_div_pow]
  rfl
theorem n_iushr (x : Int32) (q : UInt32) (k : Nat) (hk : q.toNat % 32 = k) : ((x.toUInt32 >>> q).toInt32).toBitVec.toNat = x.toBitVec.toNat / 2 ^ k := by
  show (x.toUInt32 >>> q).toNat = _
  rw [UInt32.toNat_shiftRight, hk, Nat.shiftRight_eq_div_pow]
  rfl
theorem n_l2i (x : Int64) : x.toInt32.toBitVec.toNat = x.toBitVec.toNat % 2 ^ 32 := by
  show (x.toBitVec.signExtend 32).toNat = _
  rw [BitVec.signExtend_eq_setWidth_of_le _ (by omega), BitVec.toNat_setWidth]
theorem n_i2l (x : Int32) : x.toInt64.toBitVec.toNat = x.toBitVec.toNat + if 2 ^ 31 ≤ x.toBitVec.toNat then 2 ^ 64 - 2 ^ 32 else 0 := by
  show (x.toBitVec.signExtend 64).toNat = _
  rw [BitVec.toNat_signExtend, BitVec.toNat_setWidth, BitVec.msb_eq_decide]
  have hx : x.toBitVec.toNat < 2 ^ 32 := x.toBitVec.isLt
  rw [Nat.mod_eq_of_lt (by omega)]
  simp
theorem n_ishl (x q : Int32) (k : Nat) (hk : (q.toBitVec.smod 32).toNat = k) : (x <<< q).toBitVec.toNat = x.toBitVec.toNat * 2 ^ k % 2 ^ 32 := by
  rw [Int32.toBitVec_shiftLeft, BitVec.shiftLeft_eq', BitVec.toNat_shiftLeft, Nat.shiftLeft_eq, hk]
theorem n_toInt (x : Int32) : x.toInt = if x.toBitVec.toNat < 2147483648 then (x.toBitVec.toNat : Int) else (x.toBitVec.toNat : Int) - 4294967296 := by
  have h : x.toInt = if 2 * x.toBitVec.toNat < 2 ^ 32 then (x.toBitVec.toNat : Int) else (x.toBitVec.toNat : Int) - (2 ^ 32 : Nat) := BitVec.toInt_eq_toNat_cond x.toBitVec
  rw [h]
  split <;> split <;> omega
theorem n_lt (x : Int32) : x.toBitVec.toNat < 4294967296 := x.toBitVec.isLt
theorem n_add (x y : Int32) : (x + y).toBitVec.toNat = (x.toBitVec.toNat + y.toBitVec.toNat) % 4294967296 := by rw [Int32.toBitVec_add, BitVec.toNat_add]
theorem n_addL (x y : Int64) : (x + y).toBitVec.toNat = (x.toBitVec.toNat + y.toBitVec.toNat) % 18446744073709551616 := by rw [Int64.toBitVec_add, BitVec.toNat_add]
theorem n_xor (x y : Int32) : (x ^^^ y).toBitVec.toNat = x.toBitVec.toNat ^^^ y.toBitVec.toNat := by rw [Int32.toBitVec_xor, BitVec.toNat_xor]
theorem n_xorL (x y : Int64) : (x ^^^ y).toBitVec.toNat = x.toBitVec.toNat ^^^ y.toBitVec.toNat := by rw [Int64.toBitVec_xor, BitVec.toNat_xor]
theorem n_tm (x : Int32) : (x.toBitVec.toNat : Int) % 256 = x.toInt % 256 := by
  have h := n_toInt x
  split at h <;> omega
theorem n_tm2 (x : Int32) : (x.toBitVec.toNat : Int) % 65536 = x.toInt % 65536 := by
  have h := n_toInt x
  split at h <;> omega

def own_cw (s x0 x1 x2 x3 : Int32) : Int32 := if s = 0 then ((((((((0 : Int32) <<< ((8 : Int32) &&& 31)) ||| (x0 &&& (255 : Int32))) <<< ((8 : Int32) &&& 31)) ||| (x1 &&& (255 : Int32))) <<< ((8 : Int32) &&& 31)) ||| (x2 &&& (255 : Int32))) <<< ((8 : Int32) &&& 31)) ||| (x3 &&& (255 : Int32)) else ((((((((0 : Int32) <<< ((8 : Int32) &&& 31)) ||| x0) <<< ((8 : Int32) &&& 31)) ||| x1) <<< ((8 : Int32) &&& 31)) ||| x2) <<< ((8 : Int32) &&& 31)) ||| x3
def own_u (x0 x1 x2 x3 : Int32) : Int32 := ((((x0 &&& (255 : Int32)) <<< ((24 : Int32) &&& 31)) ||| ((x1 &&& (255 : Int32)) <<< ((16 : Int32) &&& 31))) ||| ((x2 &&& (255 : Int32)) <<< ((8 : Int32) &&& 31))) ||| (x3 &&& (255 : Int32))
def own_m (x1 x2 x3 : Int32) : Int32 := if x3 < 0 then (if x2 < 0 then (if x1 < 0 then (0 : Int32) ||| -16777216 else 0) ||| -65536 else (if x1 < 0 then (0 : Int32) ||| -16777216 else 0)) ||| -256 else (if x2 < 0 then (if x1 < 0 then (0 : Int32) ||| -16777216 else 0) ||| -65536 else (if x1 < 0 then (0 : Int32) ||| -16777216 else 0))
def own_ex (s x0 x1 x2 x3 : Int32) : Int32 := if s = 0 then own_u x0 x1 x2 x3 else own_u x0 x1 x2 x3 ||| own_m x1 x2 x3
theorem own_e0 : (0 : Int32).toInt = 0 := by decide
theorem own_e1 : (1 : Int32).toInt = 1 := by decide
theorem own_tn (x : Int32) : x.toNatClampNeg = x.toInt.toNat := rfl
theorem own_nb (x : Int32) : nar .byte (nar .byte x) = nar .byte x := by simp [nar]
theorem own_tb {g : Nat → Int32} {k : Nat} {v : Int32} (h : ∀ i, nar .byte (g i) = g i) (hv : nar .byte v = v) : ∀ i, nar .byte (aup g k v i) = aup g k v i := fun i => by
  simp only [aup]
  split
  · exact hv
  · exact h i
theorem own_ln {p v : Int32} (h : ((1 : Int32) + ((p &&& (2147483647 : Int32)) % (7 : Int32))) = v) : v ≠ 0 ∧ 1 ≤ v.toInt ∧ v.toInt ≤ 7 := by
  have h1 := c_and p 2147483647 (by decide)
  have h2 := (c_irem (p &&& 2147483647) 7 7 (by decide)).1 h1.1
  have h3 := c_iadd 1 ((p &&& 2147483647) % 7)
  have h4 := rng32 (1 + ((p &&& 2147483647) % 7))
  rw [h, own_e1] at h3
  rw [h] at h4
  refine ⟨fun q => ?_, by omega, by omega⟩
  rw [q, own_e0] at h3
  omega
theorem own_cnt {p v : Int32} (h : (p &&& (3 : Int32)) = v) : v = 0 ∨ v = 1 ∨ v = 2 ∨ v = 3 := by
  have h1 := c_mask p 3 2 (by omega) (by decide)
  rw [h] at h1
  have h2 : v.toInt = 0 ∨ v.toInt = 1 ∨ v.toInt = 2 ∨ v.toInt = 3 := by omega
  rcases h2 with q | q | q | q
  · exact Or.inl (Int32.toInt_inj.mp q)
  · exact Or.inr (Or.inl (Int32.toInt_inj.mp q))
  · exact Or.inr (Or.inr (Or.inl (Int32.toInt_inj.mp q)))
  · exact Or.inr (Or.inr (Or.inr (Int32.toInt_inj.mp q)))
theorem own_cnn {p v : Int32} (h : (p &&& (3 : Int32)) = v) : ¬ v < 0 := by
  rcases own_cnt h with rfl | rfl | rfl | rfl <;> decide
theorem own_lt {p v : Int32} (h : (p &&& (3 : Int32)) = v) (k : Int32) (hk : 0 ≤ k.toInt) (hc : k < v) : k.toNatClampNeg < v.toNatClampNeg := by
  rw [Int32.lt_iff_toInt_lt] at hc
  rw [own_tn, own_tn]
  omega
theorem own_ix {L k j : Int32} (hl : 1 ≤ L.toInt ∧ L.toInt ≤ 7) (k0 : 0 ≤ k.toInt) (k1 : k.toInt ≤ 2) (j0 : 0 ≤ j.toInt) (j1 : j.toInt ≤ 3) : ¬ ((((4 : Int32) * k) + j) % L) < 0 ∧ ((((4 : Int32) * k) + j) % L).toNatClampNeg < 8 := by
  have e4 : (4 : Int32).toInt = 4 := by decide
  have h1 := c_imul 4 k
  have r1 := rng32 (4 * k)
  have h2 := c_iadd (4 * k) j
  have r2 := rng32 (4 * k + j)
  rw [e4] at h1
  have h3 := (c_iremV (4 * k + j) L).1 (by omega) (by omega)
  rw [own_tn, Int32.lt_iff_toInt_lt, own_e0]
  omega
theorem own_ix0 {L k : Int32} (hl : 1 ≤ L.toInt ∧ L.toInt ≤ 7) (k0 : 0 ≤ k.toInt) (k1 : k.toInt ≤ 2) : ¬ (((4 : Int32) * k) % L) < 0 ∧ (((4 : Int32) * k) % L).toNatClampNeg < 8 := by
  have e4 : (4 : Int32).toInt = 4 := by decide
  have h1 := c_imul 4 k
  have r1 := rng32 (4 * k)
  rw [e4] at h1
  have h3 := (c_iremV (4 * k) L).1 (by omega) (by omega)
  rw [own_tn, Int32.lt_iff_toInt_lt, own_e0]
  omega
theorem own_byte : ∀ b : BitVec 8, (Int8.ofBitVec b).toInt32 = ((Int8.ofBitVec b).toInt32 &&& 255) ||| (if (Int8.ofBitVec b).toInt32 < 0 then -256 else 0) := by decide +kernel
theorem own_by (x : Int32) (h : nar .byte x = x) : x = (x &&& 255) ||| (if x < 0 then -256 else 0) := by
  have e : x = (Int8.ofBitVec x.toInt8.toBitVec).toInt32 := h.symm
  rw [e]
  exact own_byte _
theorem own_so (a b q : Int32) : (a ||| b) <<< q = (a <<< q) ||| (b <<< q) := by
  apply Int32.toBitVec_inj.mp
  rw [Int32.toBitVec_shiftLeft, Int32.toBitVec_or, Int32.toBitVec_or, Int32.toBitVec_shiftLeft, Int32.toBitVec_shiftLeft, BitVec.shiftLeft_eq', BitVec.shiftLeft_eq', BitVec.shiftLeft_eq', BitVec.shiftLeft_or_distrib]
theorem own_ss (a : Int32) (k q r : Int32) (n n' : Nat) (hq : (q.toBitVec.smod 32).toNat = n) (hk : (k.toBitVec.smod 32).toNat = n') (hr : (r.toBitVec.smod 32).toNat = n + n') (h : n + n' < 32) : (a <<< q) <<< k = a <<< r := by
  apply n_inj32
  rw [n_ishl _ _ n' hk, n_ishl _ _ n hq, n_ishl _ _ (n + n') hr, Nat.pow_add, ← Nat.mul_assoc]
  rw [Nat.mod_mul_mod]
theorem own_s8 (a : Int32) : (a <<< ((8 : Int32) &&& 31)) <<< ((8 : Int32) &&& 31) = a <<< ((16 : Int32) &&& 31) := own_ss a _ _ _ 8 8 (by decide) (by decide) (by decide) (by omega)
theorem own_s16 (a : Int32) : (a <<< ((16 : Int32) &&& 31)) <<< ((8 : Int32) &&& 31) = a <<< ((24 : Int32) &&& 31) := own_ss a _ _ _ 16 8 (by decide) (by decide) (by decide) (by omega)
theorem own_z8 : (0 : Int32) <<< ((8 : Int32) &&& 31) = 0 := by decide
theorem own_m8 : (-256 : Int32) <<< ((8 : Int32) &&& 31) = -65536 := by decide
theorem own_m16 : (-256 : Int32) <<< ((16 : Int32) &&& 31) = -16777216 := by decide
theorem own_m24 : (-256 : Int32) <<< ((24 : Int32) &&& 31) = 0 := by decide
set_option maxHeartbeats 4000000 in
theorem own_cwex (s x0 x1 x2 x3 : Int32) (h0 : nar .byte x0 = x0) (h1 : nar .byte x1 = x1) (h2 : nar .byte x2 = x2) (h3 : nar .byte x3 = x3) : own_cw s x0 x1 x2 x3 = own_ex s x0 x1 x2 x3 := by
  unfold own_cw own_ex
  by_cases hs : s = 0
  · rw [if_pos hs, if_pos hs]
    simp only [own_so, own_s8, own_s16, own_z8, own_u, Int32.zero_or]
  · rw [if_neg hs, if_neg hs]
    have e0 := own_by x0 h0
    have e1 := own_by x1 h1
    have e2 := own_by x2 h2
    have e3 := own_by x3 h3
    generalize hy0 : x0 &&& 255 = y0 at e0
    generalize hy1 : x1 &&& 255 = y1 at e1
    generalize hy2 : x2 &&& 255 = y2 at e2
    generalize hy3 : x3 &&& 255 = y3 at e3
    simp only [own_u, hy0, hy1, hy2, hy3]
    have z1 : ∀ c : Prop, [Decidable c] → (if c then (-256 : Int32) else 0) <<< ((8 : Int32) &&& 31) = if c then -65536 else 0 := fun c _ => by split <;> decide
    have z2 : ∀ c : Prop, [Decidable c] → (if c then (-256 : Int32) else 0) <<< ((16 : Int32) &&& 31) = if c then -16777216 else 0 := fun c _ => by split <;> decide
    have z3 : ∀ c : Prop, [Decidable c] → (if c then (-256 : Int32) else 0) <<< ((24 : Int32) &&& 31) = 0 := fun c _ => by split <;> decide
    have L : ((((((((0 : Int32) <<< ((8 : Int32) &&& 31)) ||| x0) <<< ((8 : Int32) &&& 31)) ||| x1) <<< ((8 : Int32) &&& 31)) ||| x2) <<< ((8 : Int32) &&& 31)) ||| x3 = (y0 <<< ((24 : Int32) &&& 31)) ||| ((y1 <<< ((16 : Int32) &&& 31)) ||| (if x1 < 0 then -16777216 else 0)) ||| ((y2 <<< ((8 : Int32) &&& 31)) ||| (if x2 < 0 then -65536 else 0)) ||| (y3 ||| (if x3 < 0 then -256 else 0)) := by
      generalize hc0 : (if x0 < 0 then (-256 : Int32) else 0) = c0 at e0
      generalize hc1 : (if x1 < 0 then (-256 : Int32) else 0) = c1 at e1
      generalize hc2 : (if x2 < 0 then (-256 : Int32) else 0) = c2 at e2
      rw [← z2 (x1 < 0), ← z1 (x2 < 0), hc1, hc2, ← e3]
      rw [e0, e1, e2]
      simp only [own_so, own_s8, own_s16, own_z8, Int32.zero_or]
      rw [← hc0, z3]
      simp only [Int32.or_zero]
    rw [L]
    unfold own_m
    generalize (y0 <<< ((24 : Int32) &&& 31)) = A
    generalize (y1 <<< ((16 : Int32) &&& 31)) = B
    generalize (y2 <<< ((8 : Int32) &&& 31)) = C
    clear L z1 z2 z3 e0 e1 e2 e3 hy0 hy1 hy2 hy3 h0 h1 h2 h3 hs
    split <;> split <;> split <;> simp only [Int32.or_zero, Int32.zero_or] <;> ac_rfl
theorem own_same (L k : Int32) (F : Nat → Int32) (s : Int32) (hB : ∀ i, nar .byte (F i) = F i) : own_cw s (F ((((4 : Int32) * k) + (0 : Int32)) % L).toNatClampNeg) (F ((((4 : Int32) * k) + (1 : Int32)) % L).toNatClampNeg) (F ((((4 : Int32) * k) + (2 : Int32)) % L).toNatClampNeg) (F ((((4 : Int32) * k) + (3 : Int32)) % L).toNatClampNeg) = own_ex s (F (((4 : Int32) * k) % L).toNatClampNeg) (F ((((4 : Int32) * k) + (1 : Int32)) % L).toNatClampNeg) (F ((((4 : Int32) * k) + (2 : Int32)) % L).toNatClampNeg) (F ((((4 : Int32) * k) + (3 : Int32)) % L).toNatClampNeg) := by
  rw [Int32.add_zero]
  exact own_cwex s _ _ _ _ (hB _) (hB _) (hB _) (hB _)

theorem ef_rm_cw (m : MethodId) (a0 : Addr) (p1 : Int32) (p2 : Int32) (p3 : Int32) : entryFrame m #[(.ref a0), (.int p1), (.int p2), (.int p3)] 7 = mkF m 0 #[.val (.ref a0), .val (.int p1), .val (.int p2), .val (.int p3), .unset, .unset, .unset] [] := by first | (simp [entryFrame, mkF, argsToLocals, Value.category]; done) | rfl
def Q_rm_cw (Z : State) (a0 : Addr) (p1 : Int32) (p2 : Int32) (p3 : Int32) (f : Nat → Int32) (x0 : Int32) (x1 : Int32) (x2 : Int32) (x3 : Int32) (h0 : Heap) (n0 : Nat) (v : Option Value) (h : Heap) : Prop := v = some (.int (own_cw p3 x0 x1 x2 x3)) ∧ h = h0
set_option maxRecDepth 65536 in
set_option maxHeartbeats 40000000 in
theorem rm_cw (l : Launch) (Z : State) (aw : Array Value) (hw : ∀ d ∈ tables_1, d.before aw Z = true) (a0 : Addr) (p1 : Int32) (p2 : Int32) (p3 : Int32) (f : Nat → Int32) (x0 : Int32) (x1 : Int32) (x2 : Int32) (x3 : Int32) (h0 : Heap) (n0 : Nat) (A_a0 : Ary Z h0 a0 .byte 8 (fun i => (.int (f i)))) (hz : p1 ≠ 0) (hn0 : ¬ ((((4 : Int32) * p2) + (0 : Int32)) % p1) < 0) (hl0 : ((((4 : Int32) * p2) + (0 : Int32)) % p1).toNatClampNeg < 8) (hf0 : f ((((4 : Int32) * p2) + (0 : Int32)) % p1).toNatClampNeg = x0) (hn1 : ¬ ((((4 : Int32) * p2) + (1 : Int32)) % p1) < 0) (hl1 : ((((4 : Int32) * p2) + (1 : Int32)) % p1).toNatClampNeg < 8) (hf1 : f ((((4 : Int32) * p2) + (1 : Int32)) % p1).toNatClampNeg = x1) (hn2 : ¬ ((((4 : Int32) * p2) + (2 : Int32)) % p1) < 0) (hl2 : ((((4 : Int32) * p2) + (2 : Int32)) % p1).toNatClampNeg < 8) (hf2 : f ((((4 : Int32) * p2) + (2 : Int32)) % p1).toNatClampNeg = x2) (hn3 : ¬ ((((4 : Int32) * p2) + (3 : Int32)) % p1) < 0) (hl3 : ((((4 : Int32) * p2) + (3 : Int32)) % p1).toNatClampNeg < 8) (hf3 : f ((((4 : Int32) * p2) + (3 : Int32)) % p1).toNatClampNeg = x3) :
    Con l Z (⟨"com/example/orphean/orphean/Blowfish", "cyclicWord", "([BIIZ)I"⟩ : MethodName) prog_9_method_6_code 7 (some .int) ({ frames := 0, cells := 0, slots := 0, locals := 0 } : Room) #[(.ref a0), (.int p1), (.int p2), (.int p3)] h0 n0 (Q_rm_cw Z a0 p1 p2 p3 f x0 x1 x2 x3 h0 n0) := by
  refine Con.body (plainFor_of_name pn_0) ?_
  intro pr_ en_ st_ me_ below meth co_ T B S
  refine Goes.cast (ef_rm_cw me_ a0 p1 p2 p3) ?_
  refine Goes.go (fun _ => XS.iconst S.here B.x rfl (B.d d_prog_9_method_6_0)) ?_
  show Goes _ _ _ _ T (mkF me_ 1 #[.val (.ref a0), .val (.int p1), .val (.int p2), .val (.int p3), .unset, .unset, .unset] [(.int (0 : Int32))])
  refine Goes.go (fun _ => XS.istore S.here B.x rfl (B.d d_prog_9_method_6_1) rfl (l' := #[.val (.ref a0), .val (.int p1), .val (.int p2), .val (.int p3), .val (.int (0 : Int32)), .unset, .unset]) rfl) ?_
  show Goes _ _ _ _ T (mkF me_ 3 #[.val (.ref a0), .val (.int p1), .val (.int p2), .val (.int p3), .val (.int (0 : Int32)), .unset, .unset] [])
  refine Goes.go (fun _ => XS.iconst S.here B.x rfl (B.d d_prog_9_method_6_3)) ?_
  show Goes _ _ _ _ T (mkF me_ 4 #[.val (.ref a0), .val (.int p1), .val (.int p2), .val (.int p3), .val (.int (0 : Int32)), .unset, .unset] [(.int (0 : Int32))])
  refine Goes.go (fun _ => XS.istore S.here B.x rfl (B.d d_prog_9_method_6_4) rfl (l' := #[.val (.ref a0), .val (.int p1), .val (.int p2), .val (.int p3), .val (.int (0 : Int32)), .val (.int (0 : Int32)), .unset]) rfl) ?_
  show Goes _ _ _ _ T (mkF me_ 6 #[.val (.ref a0), .val (.int p1), .val (.int p2), .val (.int p3), .val (.int (0 : Int32)), .val (.int (0 : Int32)), .unset] [])
  refine Goes.go (fun _ => XS.iload S.here B.x rfl (B.d d_prog_9_method_6_6) rfl) ?_
  show Goes _ _ _ _ T (mkF me_ 8 #[.val (.ref a0), .val (.int p1), .val (.int p2), .val (.int p3), .val (.int (0 : Int32)), .val (.int (0 : Int32)), .unset] [(.int (0 : Int32))])
  refine Goes.go (fun _ => XS.iconst S.here B.x rfl (B.d d_prog_9_method_6_8)) ?_
  show Goes _ _ _ _ T (mkF me_ 9 #[.val (.ref a0), .val (.int p1), .val (.int p2), .val (.int p3), .val (.int (0 : Int32)), .val (.int (0 : Int32)), .unset] [(.int (4 : Int32)), (.int (0 : Int32))])
  refine Goes.go (fun _ => XS.icmpNo S.here B.x rfl (B.d d_prog_9_method_6_9) rfl (by decide)) ?_
  show Goes _ _ _ _ T (mkF me_ 12 #[.val (.ref a0), .val (.int p1), .val (.int p2), .val (.int p3), .val (.int (0 : Int32)), .val (.int (0 : Int32)), .unset] [])
  refine Goes.go (fun _ => XS.aloadN S.here B.x rfl (B.d d_prog_9_method_6_12) rfl rfl) ?_
  show Goes _ _ _ _ T (mkF me_ 13 #[.val (.ref a0), .val (.int p1), .val (.int p2), .val (.int p3), .val (.int (0 : Int32)), .val (.int (0 : Int32)), .unset] [(.ref a0)])
  refine Goes.go (fun _ => XS.iconst S.here B.x rfl (B.d d_prog_9_method_6_13)) ?_
  show Goes _ _ _ _ T (mkF me_ 14 #[.val (.ref a0), .val (.int p1), .val (.int p2), .val (.int p3), .val (.int (0 : Int32)), .val (.int (0 : Int32)), .unset] [(.int (4 : Int32)), (.ref a0)])
  refine Goes.go (fun _ => XS.iloadN S.here B.x rfl (B.d d_prog_9_method_6_14) rfl) ?_
  show Goes _ _ _ _ T (mkF me_ 15 #[.val (.ref a0), .val (.int p1), .val (.int p2), .val (.int p3), .val (.int (0 : Int32)), .val (.int (0 : Int32)), .unset] [(.int p2), (.int (4 : Int32)), (.ref a0)])
  refine Goes.go (fun _ => XS.imul S.here B.x rfl (B.d d_prog_9_method_6_15) rfl) ?_
  show Goes _ _ _ _ T (mkF me_ 16 #[.val (.ref a0), .val (.int p1), .val (.int p2), .val (.int p3), .val (.int (0 : Int32)), .val (.int (0 : Int32)), .unset] [(.int ((4 : Int32) * p2)), (.ref a0)])
  refine Goes.go (fun _ => XS.iload S.here B.x rfl (B.d d_prog_9_method_6_16) rfl) ?_
  show Goes _ _ _ _ T (mkF me_ 18 #[.val (.ref a0), .val (.int p1), .val (.int p2), .val (.int p3), .val (.int (0 : Int32)), .val (.int (0 : Int32)), .unset] [(.int (0 : Int32)), (.int ((4 : Int32) * p2)), (.ref a0)])
  refine Goes.go (fun _ => XS.iadd S.here B.x rfl (B.d d_prog_9_method_6_18) rfl) ?_
  show Goes _ _ _ _ T (mkF me_ 19 #[.val (.ref a0), .val (.int p1), .val (.int p2), .val (.int p3), .val (.int (0 : Int32)), .val (.int (0 : Int32)), .unset] [(.int (((4 : Int32) * p2) + (0 : Int32))), (.ref a0)])
  refine Goes.go (fun _ => XS.iloadN S.here B.x rfl (B.d d_prog_9_method_6_19) rfl) ?_
  show Goes _ _ _ _ T (mkF me_ 20 #[.val (.ref a0), .val (.int p1), .val (.int p2), .val (.int p3), .val (.int (0 : Int32)), .val (.int (0 : Int32)), .unset] [(.int p1), (.int (((4 : Int32) * p2) + (0 : Int32))), (.ref a0)])
  refine Goes.irem S B d_prog_9_method_6_20 hz ?_
  show Goes _ _ _ _ T (mkF me_ 21 #[.val (.ref a0), .val (.int p1), .val (.int p2), .val (.int p3), .val (.int (0 : Int32)), .val (.int (0 : Int32)), .unset] [(.int ((((4 : Int32) * p2) + (0 : Int32)) % p1)), (.ref a0)])
  refine Goes.baload S B A_a0 hn0 hl0 d_prog_9_method_6_21 (v := (.int x0)) (congrArg Value.int hf0) ?_
  show Goes _ _ _ _ T (mkF me_ 22 #[.val (.ref a0), .val (.int p1), .val (.int p2), .val (.int p3), .val (.int (0 : Int32)), .val (.int (0 : Int32)), .unset] [(.int x0)])
  refine Goes.go (fun _ => XS.istore S.here B.x rfl (B.d d_prog_9_method_6_22) rfl (l' := #[.val (.ref a0), .val (.int p1), .val (.int p2), .val (.int p3), .val (.int (0 : Int32)), .val (.int (0 : Int32)), .val (.int x0)]) rfl) ?_
  show Goes _ _ _ _ T (mkF me_ 24 #[.val (.ref a0), .val (.int p1), .val (.int p2), .val (.int p3), .val (.int (0 : Int32)), .val (.int (0 : Int32)), .val (.int x0)] [])
  refine Goes.go (fun _ => XS.iload S.here B.x rfl (B.d d_prog_9_method_6_24) rfl) ?_
  show Goes _ _ _ _ T (mkF me_ 26 #[.val (.ref a0), .val (.int p1), .val (.int p2), .val (.int p3), .val (.int (0 : Int32)), .val (.int (0 : Int32)), .val (.int x0)] [(.int (0 : Int32))])
  refine Goes.go (fun _ => XS.bipush S.here B.x rfl (B.d d_prog_9_method_6_26)) ?_
  show Goes _ _ _ _ T (mkF me_ 28 #[.val (.ref a0), .val (.int p1), .val (.int p2), .val (.int p3), .val (.int (0 : Int32)), .val (.int (0 : Int32)), .val (.int x0)] [(.int (8 : Int32)), (.int (0 : Int32))])
  refine Goes.go (fun _ => XS.ishl S.here B.x rfl (B.d d_prog_9_method_6_28) rfl) ?_
  show Goes _ _ _ _ T (mkF me_ 29 #[.val (.ref a0), .val (.int p1), .val (.int p2), .val (.int p3), .val (.int (0 : Int32)), .val (.int (0 : Int32)), .val (.int x0)] [(.int ((0 : Int32) <<< ((8 : Int32) &&& 31)))])
  refine Goes.go (fun _ => XS.iloadN S.here B.x rfl (B.d d_prog_9_method_6_29) rfl) ?_
  show Goes _ _ _ _ T (mkF me_ 30 #[.val (.ref a0), .val (.int p1), .val (.int p2), .val (.int p3), .val (.int (0 : Int32)), .val (.int (0 : Int32)), .val (.int x0)] [(.int p3), (.int ((0 : Int32) <<< ((8 : Int32) &&& 31)))])
  by_cases hc30 : p3 = (0 : Int32)
  · skip
    refine Goes.go (fun _ => XS.ifYes S.here B.x rfl (pc0 := 30) (pc' := 38) rfl (B.d d_prog_9_method_6_30) rfl ((if0 _ _).trans (teq hc30).1) (by decide) (by decide)) ?_
    show Goes _ _ _ _ T (mkF me_ 38 #[.val (.ref a0), .val (.int p1), .val (.int p2), .val (.int p3), .val (.int (0 : Int32)), .val (.int (0 : Int32)), .val (.int x0)] [(.int ((0 : Int32) <<< ((8 : Int32) &&& 31)))])
    refine Goes.go (fun _ => XS.iload S.here B.x rfl (B.d d_prog_9_method_6_38) rfl) ?_
    show Goes _ _ _ _ T (mkF me_ 40 #[.val (.ref a0), .val (.int p1), .val (.int p2), .val (.int p3), .val (.int (0 : Int32)), .val (.int (0 : Int32)), .val (.int x0)] [(.int x0), (.int ((0 : Int32) <<< ((8 : Int32) &&& 31)))])
    refine Goes.go (fun _ => XS.sipush S.here B.x rfl (B.d d_prog_9_method_6_40)) ?_
    show Goes _ _ _ _ T (mkF me_ 43 #[.val (.ref a0), .val (.int p1), .val (.int p2), .val (.int p3), .val (.int (0 : Int32)), .val (.int (0 : Int32)), .val (.int x0)] [(.int (255 : Int32)), (.int x0), (.int ((0 : Int32) <<< ((8 : Int32) &&& 31)))])
    refine Goes.go (fun _ => XS.iand S.here B.x rfl (B.d d_prog_9_method_6_43) rfl) ?_
    show Goes _ _ _ _ T (mkF me_ 44 #[.val (.ref a0), .val (.int p1), .val (.int p2), .val (.int p3), .val (.int (0 : Int32)), .val (.int (0 : Int32)), .val (.int x0)] [(.int (x0 &&& (255 : Int32))), (.int ((0 : Int32) <<< ((8 : Int32) &&& 31)))])
    refine Goes.go (fun _ => XS.ior S.here B.x rfl (B.d d_prog_9_method_6_44) rfl) ?_
    show Goes _ _ _ _ T (mkF me_ 45 #[.val (.ref a0), .val (.int p1), .val (.int p2), .val (.int p3), .val (.int (0 : Int32)), .val (.int (0 : Int32)), .val (.int x0)] [(.int (((0 : Int32) <<< ((8 : Int32) &&& 31)) ||| (x0 &&& (255 : Int32))))])
    refine Goes.go (fun _ => XS.istore S.here B.x rfl (B.d d_prog_9_method_6_45) rfl (l' := #[.val (.ref a0), .val (.int p1), .val (.int p2), .val (.int p3), .val (.int (((0 : Int32) <<< ((8 : Int32) &&& 31)) ||| (x0 &&& (255 : Int32)))), .val (.int (0 : Int32)), .val (.int x0)]) rfl) ?_
    show Goes _ _ _ _ T (mkF me_ 47 #[.val (.ref a0), .val (.int p1), .val (.int p2), .val (.int p3), .val (.int (((0 : Int32) <<< ((8 : Int32) &&& 31)) ||| (x0 &&& (255 : Int32)))), .val (.int (0 : Int32)), .val (.int x0)] [])
    refine Goes.go (fun _ => XS.iinc S.here B.x rfl (B.d d_prog_9_method_6_47) rfl (l' := #[.val (.ref a0), .val (.int p1), .val (.int p2), .val (.int p3), .val (.int (((0 : Int32) <<< ((8 : Int32) &&& 31)) ||| (x0 &&& (255 : Int32)))), .val (.int (1 : Int32)), .val (.int x0)]) rfl) ?_
    show Goes _ _ _ _ T (mkF me_ 50 #[.val (.ref a0), .val (.int p1), .val (.int p2), .val (.int p3), .val (.int (((0 : Int32) <<< ((8 : Int32) &&& 31)) ||| (x0 &&& (255 : Int32)))), .val (.int (1 : Int32)), .val (.int x0)] [])
    refine Goes.go (fun _ => XS.goto S.here B.x rfl (pc0 := 50) (pc' := 6) rfl (B.d d_prog_9_method_6_50) (by decide) (by decide)) ?_
    show Goes _ _ _ _ T (mkF me_ 6 #[.val (.ref a0), .val (.int p1), .val (.int p2), .val (.int p3), .val (.int (((0 : Int32) <<< ((8 : Int32) &&& 31)) ||| (x0 &&& (255 : Int32)))), .val (.int (1 : Int32)), .val (.int x0)] [])
    refine Goes.go (fun _ => XS.iload S.here B.x rfl (B.d d_prog_9_method_6_6) rfl) ?_
    show Goes _ _ _ _ T (mkF me_ 8 #[.val (.ref a0), .val (.int p1), .val (.int p2), .val (.int p3), .val (.int (((0 : Int32) <<< ((8 : Int32) &&& 31)) ||| (x0 &&& (255 : Int32)))), .val (.int (1 : Int32)), .val (.int x0)] [(.int (1 : Int32))])
    refine Goes.go (fun _ => XS.iconst S.here B.x rfl (B.d d_prog_9_method_6_8)) ?_
    show Goes _ _ _ _ T (mkF me_ 9 #[.val (.ref a0), .val (.int p1), .val (.int p2), .val (.int p3), .val (.int (((0 : Int32) <<< ((8 : Int32) &&& 31)) ||| (x0 &&& (255 : Int32)))), .val (.int (1 : Int32)), .val (.int x0)] [(.int (4 : Int32)), (.int (1 : Int32))])
    refine Goes.go (fun _ => XS.icmpNo S.here B.x rfl (B.d d_prog_9_method_6_9) rfl (by decide)) ?_
    show Goes _ _ _ _ T (mkF me_ 12 #[.val (.ref a0), .val (.int p1), .val (.int p2), .val (.int p3), .val (.int (((0 : Int32) <<< ((8 : Int32) &&& 31)) ||| (x0 &&& (255 : Int32)))), .val (.int (1 : Int32)), .val (.int x0)] [])
    refine Goes.go (fun _ => XS.aloadN S.here B.x rfl (B.d d_prog_9_method_6_12) rfl rfl) ?_
    show Goes _ _ _ _ T (mkF me_ 13 #[.val (.ref a0), .val (.int p1), .val (.int p2), .val (.int p3), .val (.int (((0 : Int32) <<< ((8 : Int32) &&& 31)) ||| (x0 &&& (255 : Int32)))), .val (.int (1 : Int32)), .val (.int x0)] [(.ref a0)])
    refine Goes.go (fun _ => XS.iconst S.here B.x rfl (B.d d_prog_9_method_6_13)) ?_
    show Goes _ _ _ _ T (mkF me_ 14 #[.val (.ref a0), .val (.int p1), .val (.int p2), .val (.int p3), .val (.int (((0 : Int32) <<< ((8 : Int32) &&& 31)) ||| (x0 &&& (255 : Int32)))), .val (.int (1 : Int32)), .val (.int x0)] [(.int (4 : Int32)), (.ref a0)])
    refine Goes.go (fun _ => XS.iloadN S.here B.x rfl (B.d d_prog_9_method_6_14) rfl) ?_
    show Goes _ _ _ _ T (mkF me_ 15 #[.val (.ref a0), .val (.int p1), .val (.int p2), .val (.int p3), .val (.int (((0 : Int32) <<< ((8 : Int32) &&& 31)) ||| (x0 &&& (255 : Int32)))), .val (.int (1 : Int32)), .val (.int x0)] [(.int p2), (.int (4 : Int32)), (.ref a0)])
    refine Goes.go (fun _ => XS.imul S.here B.x rfl (B.d d_prog_9_method_6_15) rfl) ?_
    show Goes _ _ _ _ T (mkF me_ 16 #[.val (.ref a0), .val (.int p1), .val (.int p2), .val (.int p3), .val (.int (((0 : Int32) <<< ((8 : Int32) &&& 31)) ||| (x0 &&& (255 : Int32)))), .val (.int (1 : Int32)), .val (.int x0)] [(.int ((4 : Int32) * p2)), (.ref a0)])
    refine Goes.go (fun _ => XS.iload S.here B.x rfl (B.d d_prog_9_method_6_16) rfl) ?_
    show Goes _ _ _ _ T (mkF me_ 18 #[.val (.ref a0), .val (.int p1), .val (.int p2), .val (.int p3), .val (.int (((0 : Int32) <<< ((8 : Int32) &&& 31)) ||| (x0 &&& (255 : Int32)))), .val (.int (1 : Int32)), .val (.int x0)] [(.int (1 : Int32)), (.int ((4 : Int32) * p2)), (.ref a0)])
    refine Goes.go (fun _ => XS.iadd S.here B.x rfl (B.d d_prog_9_method_6_18) rfl) ?_
    show Goes _ _ _ _ T (mkF me_ 19 #[.val (.ref a0), .val (.int p1), .val (.int p2), .val (.int p3), .val (.int (((0 : Int32) <<< ((8 : Int32) &&& 31)) ||| (x0 &&& (255 : Int32)))), .val (.int (1 : Int32)), .val (.int x0)] [(.int (((4 : Int32) * p2) + (1 : Int32))), (.ref a0)])
    refine Goes.go (fun _ => XS.iloadN S.here B.x rfl (B.d d_prog_9_method_6_19) rfl) ?_
    show Goes _ _ _ _ T (mkF me_ 20 #[.val (.ref a0), .val (.int p1), .val (.int p2), .val (.int p3), .val (.int (((0 : Int32) <<< ((8 : Int32) &&& 31)) ||| (x0 &&& (255 : Int32)))), .val (.int (1 : Int32)), .val (.int x0)] [(.int p1), (.int (((4 : Int32) * p2) + (1 : Int32))), (.ref a0)])
    refine Goes.irem S B d_prog_9_method_6_20 hz ?_
    show Goes _ _ _ _ T (mkF me_ 21 #[.val (.ref a0), .val (.int p1), .val (.int p2), .val (.int p3), .val (.int (((0 : Int32) <<< ((8 : Int32) &&& 31)) ||| (x0 &&& (255 : Int32)))), .val (.int (1 : Int32)), .val (.int x0)] [(.int ((((4 : Int32) * p2) + (1 : Int32)) % p1)), (.ref a0)])
    refine Goes.baload S B A_a0 hn1 hl1 d_prog_9_method_6_21 (v := (.int x1)) (congrArg Value.int hf1) ?_
    show Goes _ _ _ _ T (mkF me_ 22 #[.val (.ref a0), .val (.int p1), .val (.int p2), .val (.int p3), .val (.int (((0 : Int32) <<< ((8 : Int32) &&& 31)) ||| (x0 &&& (255 : Int32)))), .val (.int (1 : Int32)), .val (.int x0)] [(.int x1)])
    refine Goes.go (fun _ => XS.istore S.here B.x rfl (B.d d_prog_9_method_6_22) rfl (l' := #[.val (.ref a0), .val (.int p1), .val (.int p2), .val (.int p3), .val (.int (((0 : Int32) <<< ((8 : Int32) &&& 31)) ||| (x0 &&& (255 : Int32)))), .val (.int (1 : Int32)), .val (.int x1)]) rfl) ?_
    show Goes _ _ _ _ T (mkF me_ 24 #[.val (.ref a0), .val (.int p1), .val (.int p2), .val (.int p3), .val (.int (((0 : Int32) <<< ((8 : Int32) &&& 31)) ||| (x0 &&& (255 : Int32)))), .val (.int (1 : Int32)), .val (.int x1)] [])
    refine Goes.go (fun _ => XS.iload S.here B.x rfl (B.d d_prog_9_method_6_24) rfl) ?_
    show Goes _ _ _ _ T (mkF me_ 26 #[.val (.ref a0), .val (.int p1), .val (.int p2), .val (.int p3), .val (.int (((0 : Int32) <<< ((8 : Int32) &&& 31)) ||| (x0 &&& (255 : Int32)))), .val (.int (1 : Int32)), .val (.int x1)] [(.int (((0 : Int32) <<< ((8 : Int32) &&& 31)) ||| (x0 &&& (255 : Int32))))])
    refine Goes.go (fun _ => XS.bipush S.here B.x rfl (B.d d_prog_9_method_6_26)) ?_
    show Goes _ _ _ _ T (mkF me_ 28 #[.val (.ref a0), .val (.int p1), .val (.int p2), .val (.int p3), .val (.int (((0 : Int32) <<< ((8 : Int32) &&& 31)) ||| (x0 &&& (255 : Int32)))), .val (.int (1 : Int32)), .val (.int x1)] [(.int (8 : Int32)), (.int (((0 : Int32) <<< ((8 : Int32) &&& 31)) ||| (x0 &&& (255 : Int32))))])
    refine Goes.go (fun _ => XS.ishl S.here B.x rfl (B.d d_prog_9_method_6_28) rfl) ?_
    show Goes _ _ _ _ T (mkF me_ 29 #[.val (.ref a0), .val (.int p1), .val (.int p2), .val (.int p3), .val (.int (((0 : Int32) <<< ((8 : Int32) &&& 31)) ||| (x0 &&& (255 : Int32)))), .val (.int (1 : Int32)), .val (.int x1)] [(.int ((((0 : Int32) <<< ((8 : Int32) &&& 31)) ||| (x0 &&& (255 : Int32))) <<< ((8 : Int32) &&& 31)))])
    refine Goes.go (fun _ => XS.iloadN S.here B.x rfl (B.d d_prog_9_method_6_29) rfl) ?_
    show Goes _ _ _ _ T (mkF me_ 30 #[.val (.ref a0), .val (.int p1), .val (.int p2), .val (.int p3), .val (.int (((0 : Int32) <<< ((8 : Int32) &&& 31)) ||| (x0 &&& (255 : Int32)))), .val (.int (1 : Int32)), .val (.int x1)] [(.int p3), (.int ((((0 : Int32) <<< ((8 : Int32) &&& 31)) ||| (x0 &&& (255 : Int32))) <<< ((8 : Int32) &&& 31)))])
    refine Goes.go (fun _ => XS.ifYes S.here B.x rfl (pc0 := 30) (pc' := 38) rfl (B.d d_prog_9_method_6_30) rfl ((if0 _ _).trans (teq (show p3 = (0 : Int32) from hc30)).1) (by decide) (by decide)) ?_
    show Goes _ _ _ _ T (mkF me_ 38 #[.val (.ref a0), .val (.int p1), .val (.int p2), .val (.int p3), .val (.int (((0 : Int32) <<< ((8 : Int32) &&& 31)) ||| (x0 &&& (255 : Int32)))), .val (.int (1 : Int32)), .val (.int x1)] [(.int ((((0 : Int32) <<< ((8 : Int32) &&& 31)) ||| (x0 &&& (255 : Int32))) <<< ((8 : Int32) &&& 31)))])
    refine Goes.go (fun _ => XS.iload S.here B.x rfl (B.d d_prog_9_method_6_38) rfl) ?_
    show Goes _ _ _ _ T (mkF me_ 40 #[.val (.ref a0), .val (.int p1), .val (.int p2), .val (.int p3), .val (.int (((0 : Int32) <<< ((8 : Int32) &&& 31)) ||| (x0 &&& (255 : Int32)))), .val (.int (1 : Int32)), .val (.int x1)] [(.int x1), (.int ((((0 : Int32) <<< ((8 : Int32) &&& 31)) ||| (x0 &&& (255 : Int32))) <<< ((8 : Int32) &&& 31)))])
    refine Goes.go (fun _ => XS.sipush S.here B.x rfl (B.d d_prog_9_method_6_40)) ?_
    show Goes _ _ _ _ T (mkF me_ 43 #[.val (.ref a0), .val (.int p1), .val (.int p2), .val (.int p3), .val (.int (((0 : Int32) <<< ((8 : Int32) &&& 31)) ||| (x0 &&& (255 : Int32)))), .val (.int (1 : Int32)), .val (.int x1)] [(.int (255 : Int32)), (.int x1), (.int ((((0 : Int32) <<< ((8 : Int32) &&& 31)) ||| (x0 &&& (255 : Int32))) <<< ((8 : Int32) &&& 31)))])
    refine Goes.go (fun _ => XS.iand S.here B.x rfl (B.d d_prog_9_method_6_43) rfl) ?_
    show Goes _ _ _ _ T (mkF me_ 44 #[.val (.ref a0), .val (.int p1), .val (.int p2), .val (.int p3), .val (.int (((0 : Int32) <<< ((8 : Int32) &&& 31)) ||| (x0 &&& (255 : Int32)))), .val (.int (1 : Int32)), .val (.int x1)] [(.int (x1 &&& (255 : Int32))), (.int ((((0 : Int32) <<< ((8 : Int32) &&& 31)) ||| (x0 &&& (255 : Int32))) <<< ((8 : Int32) &&& 31)))])
    refine Goes.go (fun _ => XS.ior S.here B.x rfl (B.d d_prog_9_method_6_44) rfl) ?_
    show Goes _ _ _ _ T (mkF me_ 45 #[.val (.ref a0), .val (.int p1), .val (.int p2), .val (.int p3), .val (.int (((0 : Int32) <<< ((8 : Int32) &&& 31)) ||| (x0 &&& (255 : Int32)))), .val (.int (1 : Int32)), .val (.int x1)] [(.int (((((0 : Int32) <<< ((8 : Int32) &&& 31)) ||| (x0 &&& (255 : Int32))) <<< ((8 : Int32) &&& 31)) ||| (x1 &&& (255 : Int32))))])
    refine Goes.go (fun _ => XS.istore S.here B.x rfl (B.d d_prog_9_method_6_45) rfl (l' := #[.val (.ref a0), .val (.int p1), .val (.int p2), .val (.int p3), .val (.int (((((0 : Int32) <<< ((8 : Int32) &&& 31)) ||| (x0 &&& (255 : Int32))) <<< ((8 : Int32) &&& 31)) ||| (x1 &&& (255 : Int32)))), .val (.int (1 : Int32)), .val (.int x1)]) rfl) ?_
    show Goes _ _ _ _ T (mkF me_ 47 #[.val (.ref a0), .val (.int p1), .val (.int p2), .val (.int p3), .val (.int (((((0 : Int32) <<< ((8 : Int32) &&& 31)) ||| (x0 &&& (255 : Int32))) <<< ((8 : Int32) &&& 31)) ||| (x1 &&& (255 : Int32)))), .val (.int (1 : Int32)), .val (.int x1)] [])
    refine Goes.go (fun _ => XS.iinc S.here B.x rfl (B.d d_prog_9_method_6_47) rfl (l' := #[.val (.ref a0), .val (.int p1), .val (.int p2), .val (.int p3), .val (.int (((((0 : Int32) <<< ((8 : Int32) &&& 31)) ||| (x0 &&& (255 : Int32))) <<< ((8 : Int32) &&& 31)) ||| (x1 &&& (255 : Int32)))), .val (.int (2 : Int32)), .val (.int x1)]) rfl) ?_
    show Goes _ _ _ _ T (mkF me_ 50 #[.val (.ref a0), .val (.int p1), .val (.int p2), .val (.int p3), .val (.int (((((0 : Int32) <<< ((8 : Int32) &&& 31)) ||| (x0 &&& (255 : Int32))) <<< ((8 : Int32) &&& 31)) ||| (x1 &&& (255 : Int32)))), .val (.int (2 : Int32)), .val (.int x1)] [])
    refine Goes.go (fun _ => XS.goto S.here B.x rfl (pc0 := 50) (pc' := 6) rfl (B.d d_prog_9_method_6_50) (by decide) (by decide)) ?_
    show Goes _ _ _ _ T (mkF me_ 6 #[.val (.ref a0), .val (.int p1), .val (.int p2), .val (.int p3), .val (.int (((((0 : Int32) <<< ((8 : Int32) &&& 31)) ||| (x0 &&& (255 : Int32))) <<< ((8 : Int32) &&& 31)) ||| (x1 &&& (255 : Int32)))), .val (.int (2 : Int32)), .val (.int x1)] [])
    refine Goes.go (fun _ => XS.iload S.here B.x rfl (B.d d_prog_9_method_6_6) rfl) ?_
    show Goes _ _ _ _ T (mkF me_ 8 #[.val (.ref a0), .val (.int p1), .val (.int p2), .val (.int p3), .val (.int (((((0 : Int32) <<< ((8 : Int32) &&& 31)) ||| (x0 &&& (255 : Int32))) <<< ((8 : Int32) &&& 31)) ||| (x1 &&& (255 : Int32)))), .val (.int (2 : Int32)), .val (.int x1)] [(.int (2 : Int32))])
    refine Goes.go (fun _ => XS.iconst S.here B.x rfl (B.d d_prog_9_method_6_8)) ?_
    show Goes _ _ _ _ T (mkF me_ 9 #[.val (.ref a0), .val (.int p1), .val (.int p2), .val (.int p3), .val (.int (((((0 : Int32) <<< ((8 : Int32) &&& 31)) ||| (x0 &&& (255 : Int32))) <<< ((8 : Int32) &&& 31)) ||| (x1 &&& (255 : Int32)))), .val (.int (2 : Int32)), .val (.int x1)] [(.int (4 : Int32)), (.int (2 : Int32))])
    refine Goes.go (fun _ => XS.icmpNo S.here B.x rfl (B.d d_prog_9_method_6_9) rfl (by decide)) ?_
    show Goes _ _ _ _ T (mkF me_ 12 #[.val (.ref a0), .val (.int p1), .val (.int p2), .val (.int p3), .val (.int (((((0 : Int32) <<< ((8 : Int32) &&& 31)) ||| (x0 &&& (255 : Int32))) <<< ((8 : Int32) &&& 31)) ||| (x1 &&& (255 : Int32)))), .val (.int (2 : Int32)), .val (.int x1)] [])
    refine Goes.go (fun _ => XS.aloadN S.here B.x rfl (B.d d_prog_9_method_6_12) rfl rfl) ?_
    show Goes _ _ _ _ T (mkF me_ 13 #[.val (.ref a0), .val (.int p1), .val (.int p2), .val (.int p3), .val (.int (((((0 : Int32) <<< ((8 : Int32) &&& 31)) ||| (x0 &&& (255 : Int32))) <<< ((8 : Int32) &&& 31)) ||| (x1 &&& (255 : Int32)))), .val (.int (2 : Int32)), .val (.int x1)] [(.ref a0)])
    refine Goes.go (fun _ => XS.iconst S.here B.x rfl (B.d d_prog_9_method_6_13)) ?_
    show Goes _ _ _ _ T (mkF me_ 14 #[.val (.ref a0), .val (.int p1), .val (.int p2), .val (.int p3), .val (.int (((((0 : Int32) <<< ((8 : Int32) &&& 31)) ||| (x0 &&& (255 : Int32))) <<< ((8 : Int32) &&& 31)) ||| (x1 &&& (255 : Int32)))), .val (.int (2 : Int32)), .val (.int x1)] [(.int (4 : Int32)), (.ref a0)])
    refine Goes.go (fun _ => XS.iloadN S.here B.x rfl (B.d d_prog_9_method_6_14) rfl) ?_
    show Goes _ _ _ _ T (mkF me_ 15 #[.val (.ref a0), .val (.int p1), .val (.int p2), .val (.int p3), .val (.int (((((0 : Int32) <<< ((8 : Int32) &&& 31)) ||| (x0 &&& (255 : Int32))) <<< ((8 : Int32) &&& 31)) ||| (x1 &&& (255 : Int32)))), .val (.int (2 : Int32)), .val (.int x1)] [(.int p2), (.int (4 : Int32)), (.ref a0)])
    refine Goes.go (fun _ => XS.imul S.here B.x rfl (B.d d_prog_9_method_6_15) rfl) ?_
    show Goes _ _ _ _ T (mkF me_ 16 #[.val (.ref a0), .val (.int p1), .val (.int p2), .val (.int p3), .val (.int (((((0 : Int32) <<< ((8 : Int32) &&& 31)) ||| (x0 &&& (255 : Int32))) <<< ((8 : Int32) &&& 31)) ||| (x1 &&& (255 : Int32)))), .val (.int (2 : Int32)), .val (.int x1)] [(.int ((4 : Int32) * p2)), (.ref a0)])
    refine Goes.go (fun _ => XS.iload S.here B.x rfl (B.d d_prog_9_method_6_16) rfl) ?_
    show Goes _ _ _ _ T (mkF me_ 18 #[.val (.ref a0), .val (.int p1), .val (.int p2), .val (.int p3), .val (.int (((((0 : Int32) <<< ((8 : Int32) &&& 31)) ||| (x0 &&& (255 : Int32))) <<< ((8 : Int32) &&& 31)) ||| (x1 &&& (255 : Int32)))), .val (.int (2 : Int32)), .val (.int x1)] [(.int (2 : Int32)), (.int ((4 : Int32) * p2)), (.ref a0)])
    refine Goes.go (fun _ => XS.iadd S.here B.x rfl (B.d d_prog_9_method_6_18) rfl) ?_
    show Goes _ _ _ _ T (mkF me_ 19 #[.val (.ref a0), .val (.int p1), .val (.int p2), .val (.int p3), .val (.int (((((0 : Int32) <<< ((8 : Int32) &&& 31)) ||| (x0 &&& (255 : Int32))) <<< ((8 : Int32) &&& 31)) ||| (x1 &&& (255 : Int32)))), .val (.int (2 : Int32)), .val (.int x1)] [(.int (((4 : Int32) * p2) + (2 : Int32))), (.ref a0)])
    refine Goes.go (fun _ => XS.iloadN S.here B.x rfl (B.d d_prog_9_method_6_19) rfl) ?_
    show Goes _ _ _ _ T (mkF me_ 20 #[.val (.ref a0), .val (.int p1), .val (.int p2), .val (.int p3), .val (.int (((((0 : Int32) <<< ((8 : Int32) &&& 31)) ||| (x0 &&& (255 : Int32))) <<< ((8 : Int32) &&& 31)) ||| (x1 &&& (255 : Int32)))), .val (.int (2 : Int32)), .val (.int x1)] [(.int p1), (.int (((4 : Int32) * p2) + (2 : Int32))), (.ref a0)])
    refine Goes.irem S B d_prog_9_method_6_20 hz ?_
    show Goes _ _ _ _ T (mkF me_ 21 #[.val (.ref a0), .val (.int p1), .val (.int p2), .val (.int p3), .val (.int (((((0 : Int32) <<< ((8 : Int32) &&& 31)) ||| (x0 &&& (255 : Int32))) <<< ((8 : Int32) &&& 31)) ||| (x1 &&& (255 : Int32)))), .val (.int (2 : Int32)), .val (.int x1)] [(.int ((((4 : Int32) * p2) + (2 : Int32)) % p1)), (.ref a0)])
    refine Goes.baload S B A_a0 hn2 hl2 d_prog_9_method_6_21 (v := (.int x2)) (congrArg Value.int hf2) ?_
    show Goes _ _ _ _ T (mkF me_ 22 #[.val (.ref a0), .val (.int p1), .val (.int p2), .val (.int p3), .val (.int (((((0 : Int32) <<< ((8 : Int32) &&& 31)) ||| (x0 &&& (255 : Int32))) <<< ((8 : Int32) &&& 31)) ||| (x1 &&& (255 : Int32)))), .val (.int (2 : Int32)), .val (.int x1)] [(.int x2)])
    refine Goes.go (fun _ => XS.istore S.here B.x rfl (B.d d_prog_9_method_6_22) rfl (l' := #[.val (.ref a0), .val (.int p1), .val (.int p2), .val (.int p3), .val (.int (((((0 : Int32) <<< ((8 : Int32) &&& 31)) ||| (x0 &&& (255 : Int32))) <<< ((8 : Int32) &&& 31)) ||| (x1 &&& (255 : Int32)))), .val (.int (2 : Int32)), .val (.int x2)]) rfl) ?_
    show Goes _ _ _ _ T (mkF me_ 24 #[.val (.ref a0), .val (.int p1), .val (.int p2), .val (.int p3), .val (.int (((((0 : Int32) <<< ((8 : Int32) &&& 31)) ||| (x0 &&& (255 : Int32))) <<< ((8 : Int32) &&& 31)) ||| (x1 &&& (255 : Int32)))), .val (.int (2 : Int32)), .val (.int x2)] [])
    refine Goes.go (fun _ => XS.iload S.here B.x rfl (B.d d_prog_9_method_6_24) rfl) ?_
    show Goes _ _ _ _ T (mkF me_ 26 #[.val (.ref a0), .val (.int p1), .val (.int p2), .val (.int p3), .val (.int (((((0 : Int32) <<< ((8 : Int32) &&& 31)) ||| (x0 &&& (255 : Int32))) <<< ((8 : Int32) &&& 31)) ||| (x1 &&& (255 : Int32)))), .val (.int (2 : Int32)), .val (.int x2)] [(.int (((((0 : Int32) <<< ((8 : Int32) &&& 31)) ||| (x0 &&& (255 : Int32))) <<< ((8 : Int32) &&& 31)) ||| (x1 &&& (255 : Int32))))])
    refine Goes.go (fun _ => XS.bipush S.here B.x rfl (B.d d_prog_9_method_6_26)) ?_
    show Goes _ _ _ _ T (mkF me_ 28 #[.val (.ref a0), .val (.int p1), .val (.int p2), .val (.int p3), .val (.int (((((0 : Int32) <<< ((8 : Int32) &&& 31)) ||| (x0 &&& (255 : Int32))) <<< ((8 : Int32) &&& 31)) ||| (x1 &&& (255 : Int32)))), .val (.int (2 : Int32)), .val (.int x2)] [(.int (8 : Int32)), (.int (((((0 : Int32) <<< ((8 : Int32) &&& 31)) ||| (x0 &&& (255 : Int32))) <<< ((8 : Int32) &&& 31)) ||| (x1 &&& (255 : Int32))))])
    refine Goes.go (fun _ => XS.ishl S.here B.x rfl (B.d d_prog_9_method_6_28) rfl) ?_
    show Goes _ _ _ _ T (mkF me_ 29 #[.val (.ref a0), .val (.int p1), .val (.int p2), .val (.int p3), .val (.int (((((0 : Int32) <<< ((8 : Int32) &&& 31)) ||| (x0 &&& (255 : Int32))) <<< ((8 : Int32) &&& 31)) ||| (x1 &&& (255 : Int32)))), .val (.int (2 : Int32)), .val (.int x2)] [(.int ((((((0 : Int32) <<< ((8 : Int32) &&& 31)) ||| (x0 &&& (255 : Int32))) <<< ((8 : Int32) &&& 31)) ||| (x1 &&& (255 : Int32))) <<< ((8 : Int32) &&& 31)))])
    refine Goes.go (fun _ => XS.iloadN S.here B.x rfl (B.d d_prog_9_method_6_29) rfl) ?_
    show Goes _ _ _ _ T (mkF me_ 30 #[.val (.ref a0), .val (.int p1), .val (.int p2), .val (.int p3), .val (.int (((((0 : Int32) <<< ((8 : Int32) &&& 31)) ||| (x0 &&& (255 : Int32))) <<< ((8 : Int32) &&& 31)) ||| (x1 &&& (255 : Int32)))), .val (.int (2 : Int32)), .val (.int x2)] [(.int p3), (.int ((((((0 : Int32) <<< ((8 : Int32) &&& 31)) ||| (x0 &&& (255 : Int32))) <<< ((8 : Int32) &&& 31)) ||| (x1 &&& (255 : Int32))) <<< ((8 : Int32) &&& 31)))])
    refine Goes.go (fun _ => XS.ifYes S.here B.x rfl (pc0 := 30) (pc' := 38) rfl (B.d d_prog_9_method_6_30) rfl ((if0 _ _).trans (teq (show p3 = (0 : Int32) from hc30)).1) (by decide) (by decide)) ?_
    show Goes _ _ _ _ T (mkF me_ 38 #[.val (.ref a0), .val (.int p1), .val (.int p2), .val (.int p3), .val (.int (((((0 : Int32) <<< ((8 : Int32) &&& 31)) ||| (x0 &&& (255 : Int32))) <<< ((8 : Int32) &&& 31)) ||| (x1 &&& (255 : Int32)))), .val (.int (2 : Int32)), .val (.int x2)] [(.int ((((((0 : Int32) <<< ((8 : Int32) &&& 31)) ||| (x0 &&& (255 : Int32))) <<< ((8 : Int32) &&& 31)) ||| (x1 &&& (255 : Int32))) <<< ((8 : Int32) &&& 31)))])
    refine Goes.go (fun _ => XS.iload S.here B.x rfl (B.d d_prog_9_method_6_38) rfl) ?_
    show Goes _ _ _ _ T (mkF me_ 40 #[.val (.ref a0), .val (.int p1), .val (.int p2), .val (.int p3), .val (.int (((((0 : Int32) <<< ((8 : Int32) &&& 31)) ||| (x0 &&& (255 : Int32))) <<< ((8 : Int32) &&& 31)) ||| (x1 &&& (255 : Int32)))), .val (.int (2 : Int32)), .val (.int x2)] [(.int x2), (.int ((((((0 : Int32) <<< ((8 : Int32) &&& 31)) ||| (x0 &&& (255 : Int32))) <<< ((8 : Int32) &&& 31)) ||| (x1 &&& (255 : Int32))) <<< ((8 : Int32) &&& 31)))])
    refine Goes.go (fun _ => XS.sipush S.here B.x rfl (B.d d_prog_9_method_6_40)) ?_
    show Goes _ _ _ _ T (mkF me_ 43 #[.val (.ref a0), .val (.int p1), .val (.int p2), .val (.int p3), .val (.int (((((0 : Int32) <<< ((8 : Int32) &&& 31)) ||| (x0 &&& (255 : Int32))) <<< ((8 : Int32) &&& 31)) ||| (x1 &&& (255 : Int32)))), .val (.int (2 : Int32)), .val (.int x2)] [(.int (255 : Int32)), (.int x2), (.int ((((((0 : Int32) <<< ((8 : Int32) &&& 31)) ||| (x0 &&& (255 : Int32))) <<< ((8 : Int32) &&& 31)) ||| (x1 &&& (255 : Int32))) <<< ((8 : Int32) &&& 31)))])
    refine Goes.go (fun _ => XS.iand S.here B.x rfl (B.d d_prog_9_method_6_43) rfl) ?_
    show Goes _ _ _ _ T (mkF me_ 44 #[.val (.ref a0), .val (.int p1), .val (.int p2), .val (.int p3), .val (.int (((((0 : Int32) <<< ((8 : Int32) &&& 31)) ||| (x0 &&& (255 : Int32))) <<< ((8 : Int32) &&& 31)) ||| (x1 &&& (255 : Int32)))), .val (.int (2 : Int32)), .val (.int x2)] [(.int (x2 &&& (255 : Int32))), (.int ((((((0 : Int32) <<< ((8 : Int32) &&& 31)) ||| (x0 &&& (255 : Int32))) <<< ((8 : Int32) &&& 31)) ||| (x1 &&& (255 : Int32))) <<< ((8 : Int32) &&& 31)))])
    refine Goes.go (fun _ => XS.ior S.here B.x rfl (B.d d_prog_9_method_6_44) rfl) ?_
    show Goes _ _ _ _ T (mkF me_ 45 #[.val (.ref a0), .val (.int p1), .val (.int p2), .val (.int p3), .val (.int (((((0 : Int32) <<< ((8 : Int32) &&& 31)) ||| (x0 &&& (255 : Int32))) <<< ((8 : Int32) &&& 31)) ||| (x1 &&& (255 : Int32)))), .val (.int (2 : Int32)), .val (.int x2)] [(.int (((((((0 : Int32) <<< ((8 : Int32) &&& 31)) ||| (x0 &&& (255 : Int32))) <<< ((8 : Int32) &&& 31)) ||| (x1 &&& (255 : Int32))) <<< ((8 : Int32) &&& 31)) ||| (x2 &&& (255 : Int32))))])
    refine Goes.go (fun _ => XS.istore S.here B.x rfl (B.d d_prog_9_method_6_45) rfl (l' := #[.val (.ref a0), .val (.int p1), .val (.int p2), .val (.int p3), .val (.int (((((((0 : Int32) <<< ((8 : Int32) &&& 31)) ||| (x0 &&& (255 : Int32))) <<< ((8 : Int32) &&& 31)) ||| (x1 &&& (255 : Int32))) <<< ((8 : Int32) &&& 31)) ||| (x2 &&& (255 : Int32)))), .val (.int (2 : Int32)), .val (.int x2)]) rfl) ?_
    show Goes _ _ _ _ T (mkF me_ 47 #[.val (.ref a0), .val (.int p1), .val (.int p2), .val (.int p3), .val (.int (((((((0 : Int32) <<< ((8 : Int32) &&& 31)) ||| (x0 &&& (255 : Int32))) <<< ((8 : Int32) &&& 31)) ||| (x1 &&& (255 : Int32))) <<< ((8 : Int32) &&& 31)) ||| (x2 &&& (255 : Int32)))), .val (.int (2 : Int32)), .val (.int x2)] [])
    refine Goes.go (fun _ => XS.iinc S.here B.x rfl (B.d d_prog_9_method_6_47) rfl (l' := #[.val (.ref a0), .val (.int p1), .val (.int p2), .val (.int p3), .val (.int (((((((0 : Int32) <<< ((8 : Int32) &&& 31)) ||| (x0 &&& (255 : Int32))) <<< ((8 : Int32) &&& 31)) ||| (x1 &&& (255 : Int32))) <<< ((8 : Int32) &&& 31)) ||| (x2 &&& (255 : Int32)))), .val (.int (3 : Int32)), .val (.int x2)]) rfl) ?_
    show Goes _ _ _ _ T (mkF me_ 50 #[.val (.ref a0), .val (.int p1), .val (.int p2), .val (.int p3), .val (.int (((((((0 : Int32) <<< ((8 : Int32) &&& 31)) ||| (x0 &&& (255 : Int32))) <<< ((8 : Int32) &&& 31)) ||| (x1 &&& (255 : Int32))) <<< ((8 : Int32) &&& 31)) ||| (x2 &&& (255 : Int32)))), .val (.int (3 : Int32)), .val (.int x2)] [])
    refine Goes.go (fun _ => XS.goto S.here B.x rfl (pc0 := 50) (pc' := 6) rfl (B.d d_prog_9_method_6_50) (by decide) (by decide)) ?_
    show Goes _ _ _ _ T (mkF me_ 6 #[.val (.ref a0), .val (.int p1), .val (.int p2), .val (.int p3), .val (.int (((((((0 : Int32) <<< ((8 : Int32) &&& 31)) ||| (x0 &&& (255 : Int32))) <<< ((8 : Int32) &&& 31)) ||| (x1 &&& (255 : Int32))) <<< ((8 : Int32) &&& 31)) ||| (x2 &&& (255 : Int32)))), .val (.int (3 : Int32)), .val (.int x2)] [])
    refine Goes.go (fun _ => XS.iload S.here B.x rfl (B.d d_prog_9_method_6_6) rfl) ?_
    show Goes _ _ _ _ T (mkF me_ 8 #[.val (.ref a0), .val (.int p1), .val (.int p2), .val (.int p3), .val (.int (((((((0 : Int32) <<< ((8 : Int32) &&& 31)) ||| (x0 &&& (255 : Int32))) <<< ((8 : Int32) &&& 31)) ||| (x1 &&& (255 : Int32))) <<< ((8 : Int32) &&& 31)) ||| (x2 &&& (255 : Int32)))), .val (.int (3 : Int32)), .val (.int x2)] [(.int (3 : Int32))])
    refine Goes.go (fun _ => XS.iconst S.here B.x rfl (B.d d_prog_9_method_6_8)) ?_
    show Goes _ _ _ _ T (mkF me_ 9 #[.val (.ref a0), .val (.int p1), .val (.int p2), .val (.int p3), .val (.int (((((((0 : Int32) <<< ((8 : Int32) &&& 31)) ||| (x0 &&& (255 : Int32))) <<< ((8 : Int32) &&& 31)) ||| (x1 &&& (255 : Int32))) <<< ((8 : Int32) &&& 31)) ||| (x2 &&& (255 : Int32)))), .val (.int (3 : Int32)), .val (.int x2)] [(.int (4 : Int32)), (.int (3 : Int32))])
    refine Goes.go (fun _ => XS.icmpNo S.here B.x rfl (B.d d_prog_9_method_6_9) rfl (by decide)) ?_
    show Goes _ _ _ _ T (mkF me_ 12 #[.val (.ref a0), .val (.int p1), .val (.int p2), .val (.int p3), .val (.int (((((((0 : Int32) <<< ((8 : Int32) &&& 31)) ||| (x0 &&& (255 : Int32))) <<< ((8 : Int32) &&& 31)) ||| (x1 &&& (255 : Int32))) <<< ((8 : Int32) &&& 31)) ||| (x2 &&& (255 : Int32)))), .val (.int (3 : Int32)), .val (.int x2)] [])
    refine Goes.go (fun _ => XS.aloadN S.here B.x rfl (B.d d_prog_9_method_6_12) rfl rfl) ?_
    show Goes _ _ _ _ T (mkF me_ 13 #[.val (.ref a0), .val (.int p1), .val (.int p2), .val (.int p3), .val (.int (((((((0 : Int32) <<< ((8 : Int32) &&& 31)) ||| (x0 &&& (255 : Int32))) <<< ((8 : Int32) &&& 31)) ||| (x1 &&& (255 : Int32))) <<< ((8 : Int32) &&& 31)) ||| (x2 &&& (255 : Int32)))), .val (.int (3 : Int32)), .val (.int x2)] [(.ref a0)])
    refine Goes.go (fun _ => XS.iconst S.here B.x rfl (B.d d_prog_9_method_6_13)) ?_
    show Goes _ _ _ _ T (mkF me_ 14 #[.val (.ref a0), .val (.int p1), .val (.int p2), .val (.int p3), .val (.int (((((((0 : Int32) <<< ((8 : Int32) &&& 31)) ||| (x0 &&& (255 : Int32))) <<< ((8 : Int32) &&& 31)) ||| (x1 &&& (255 : Int32))) <<< ((8 : Int32) &&& 31)) ||| (x2 &&& (255 : Int32)))), .val (.int (3 : Int32)), .val (.int x2)] [(.int (4 : Int32)), (.ref a0)])
    refine Goes.go (fun _ => XS.iloadN S.here B.x rfl (B.d d_prog_9_method_6_14) rfl) ?_
    show Goes _ _ _ _ T (mkF me_ 15 #[.val (.ref a0), .val (.int p1), .val (.int p2), .val (.int p3), .val (.int (((((((0 : Int32) <<< ((8 : Int32) &&& 31)) ||| (x0 &&& (255 : Int32))) <<< ((8 : Int32) &&& 31)) ||| (x1 &&& (255 : Int32))) <<< ((8 : Int32) &&& 31)) ||| (x2 &&& (255 : Int32)))), .val (.int (3 : Int32)), .val (.int x2)] [(.int p2), (.int (4 : Int32)), (.ref a0)])
    refine Goes.go (fun _ => XS.imul S.here B.x rfl (B.d d_prog_9_method_6_15) rfl) ?_
    show Goes _ _ _ _ T (mkF me_ 16 #[.val (.ref a0), .val (.int p1), .val (.int p2), .val (.int p3), .val (.int (((((((0 : Int32) <<< ((8 : Int32) &&& 31)) ||| (x0 &&& (255 : Int32))) <<< ((8 : Int32) &&& 31)) ||| (x1 &&& (255 : Int32))) <<< ((8 : Int32) &&& 31)) ||| (x2 &&& (255 : Int32)))), .val (.int (3 : Int32)), .val (.int x2)] [(.int ((4 : Int32) * p2)), (.ref a0)])
    refine Goes.go (fun _ => XS.iload S.here B.x rfl (B.d d_prog_9_method_6_16) rfl) ?_
    show Goes _ _ _ _ T (mkF me_ 18 #[.val (.ref a0), .val (.int p1), .val (.int p2), .val (.int p3), .val (.int (((((((0 : Int32) <<< ((8 : Int32) &&& 31)) ||| (x0 &&& (255 : Int32))) <<< ((8 : Int32) &&& 31)) ||| (x1 &&& (255 : Int32))) <<< ((8 : Int32) &&& 31)) ||| (x2 &&& (255 : Int32)))), .val (.int (3 : Int32)), .val (.int x2)] [(.int (3 : Int32)), (.int ((4 : Int32) * p2)), (.ref a0)])
    refine Goes.go (fun _ => XS.iadd S.here B.x rfl (B.d d_prog_9_method_6_18) rfl) ?_
    show Goes _ _ _ _ T (mkF me_ 19 #[.val (.ref a0), .val (.int p1), .val (.int p2), .val (.int p3), .val (.int (((((((0 : Int32) <<< ((8 : Int32) &&& 31)) ||| (x0 &&& (255 : Int32))) <<< ((8 : Int32) &&& 31)) ||| (x1 &&& (255 : Int32))) <<< ((8 : Int32) &&& 31)) ||| (x2 &&& (255 : Int32)))), .val (.int (3 : Int32)), .val (.int x2)] [(.int (((4 : Int32) * p2) + (3 : Int32))), (.ref a0)])
    refine Goes.go (fun _ => XS.iloadN S.here B.x rfl (B.d d_prog_9_method_6_19) rfl) ?_
    show Goes _ _ _ _ T (mkF me_ 20 #[.val (.ref a0), .val (.int p1), .val (.int p2), .val (.int p3), .val (.int (((((((0 : Int32) <<< ((8 : Int32) &&& 31)) ||| (x0 &&& (255 : Int32))) <<< ((8 : Int32) &&& 31)) ||| (x1 &&& (255 : Int32))) <<< ((8 : Int32) &&& 31)) ||| (x2 &&& (255 : Int32)))), .val (.int (3 : Int32)), .val (.int x2)] [(.int p1), (.int (((4 : Int32) * p2) + (3 : Int32))), (.ref a0)])
    refine Goes.irem S B d_prog_9_method_6_20 hz ?_
    show Goes _ _ _ _ T (mkF me_ 21 #[.val (.ref a0), .val (.int p1), .val (.int p2), .val (.int p3), .val (.int (((((((0 : Int32) <<< ((8 : Int32) &&& 31)) ||| (x0 &&& (255 : Int32))) <<< ((8 : Int32) &&& 31)) ||| (x1 &&& (255 : Int32))) <<< ((8 : Int32) &&& 31)) ||| (x2 &&& (255 : Int32)))), .val (.int (3 : Int32)), .val (.int x2)] [(.int ((((4 : Int32) * p2) + (3 : Int32)) % p1)), (.ref a0)])
    refine Goes.baload S B A_a0 hn3 hl3 d_prog_9_method_6_21 (v := (.int x3)) (congrArg Value.int hf3) ?_
    show Goes _ _ _ _ T (mkF me_ 22 #[.val (.ref a0), .val (.int p1), .val (.int p2), .val (.int p3), .val (.int (((((((0 : Int32) <<< ((8 : Int32) &&& 31)) ||| (x0 &&& (255 : Int32))) <<< ((8 : Int32) &&& 31)) ||| (x1 &&& (255 : Int32))) <<< ((8 : Int32) &&& 31)) ||| (x2 &&& (255 : Int32)))), .val (.int (3 : Int32)), .val (.int x2)] [(.int x3)])
    refine Goes.go (fun _ => XS.istore S.here B.x rfl (B.d d_prog_9_method_6_22) rfl (l' := #[.val (.ref a0), .val (.int p1), .val (.int p2), .val (.int p3), .val (.int (((((((0 : Int32) <<< ((8 : Int32) &&& 31)) ||| (x0 &&& (255 : Int32))) <<< ((8 : Int32) &&& 31)) ||| (x1 &&& (255 : Int32))) <<< ((8 : Int32) &&& 31)) ||| (x2 &&& (255 : Int32)))), .val (.int (3 : Int32)), .val (.int x3)]) rfl) ?_
    show Goes _ _ _ _ T (mkF me_ 24 #[.val (.ref a0), .val (.int p1), .val (.int p2), .val (.int p3), .val (.int (((((((0 : Int32) <<< ((8 : Int32) &&& 31)) ||| (x0 &&& (255 : Int32))) <<< ((8 : Int32) &&& 31)) ||| (x1 &&& (255 : Int32))) <<< ((8 : Int32) &&& 31)) ||| (x2 &&& (255 : Int32)))), .val (.int (3 : Int32)), .val (.int x3)] [])
    refine Goes.go (fun _ => XS.iload S.here B.x rfl (B.d d_prog_9_method_6_24) rfl) ?_
    show Goes _ _ _ _ T (mkF me_ 26 #[.val (.ref a0), .val (.int p1), .val (.int p2), .val (.int p3), .val (.int (((((((0 : Int32) <<< ((8 : Int32) &&& 31)) ||| (x0 &&& (255 : Int32))) <<< ((8 : Int32) &&& 31)) ||| (x1 &&& (255 : Int32))) <<< ((8 : Int32) &&& 31)) ||| (x2 &&& (255 : Int32)))), .val (.int (3 : Int32)), .val (.int x3)] [(.int (((((((0 : Int32) <<< ((8 : Int32) &&& 31)) ||| (x0 &&& (255 : Int32))) <<< ((8 : Int32) &&& 31)) ||| (x1 &&& (255 : Int32))) <<< ((8 : Int32) &&& 31)) ||| (x2 &&& (255 : Int32))))])
    refine Goes.go (fun _ => XS.bipush S.here B.x rfl (B.d d_prog_9_method_6_26)) ?_
    show Goes _ _ _ _ T (mkF me_ 28 #[.val (.ref a0), .val (.int p1), .val (.int p2), .val (.int p3), .val (.int (((((((0 : Int32) <<< ((8 : Int32) &&& 31)) ||| (x0 &&& (255 : Int32))) <<< ((8 : Int32) &&& 31)) ||| (x1 &&& (255 : Int32))) <<< ((8 : Int32) &&& 31)) ||| (x2 &&& (255 : Int32)))), .val (.int (3 : Int32)), .val (.int x3)] [(.int (8 : Int32)), (.int (((((((0 : Int32) <<< ((8 : Int32) &&& 31)) ||| (x0 &&& (255 : Int32))) <<< ((8 : Int32) &&& 31)) ||| (x1 &&& (255 : Int32))) <<< ((8 : Int32) &&& 31)) ||| (x2 &&& (255 : Int32))))])
    refine Goes.go (fun _ => XS.ishl S.here B.x rfl (B.d d_prog_9_method_6_28) rfl) ?_
    show Goes _ _ _ _ T (mkF me_ 29 #[.val (.ref a0), .val (.int p1), .val (.int p2), .val (.int p3), .val (.int (((((((0 : Int32) <<< ((8 : Int32) &&& 31)) ||| (x0 &&& (255 : Int32))) <<< ((8 : Int32) &&& 31)) ||| (x1 &&& (255 : Int32))) <<< ((8 : Int32) &&& 31)) ||| (x2 &&& (255 : Int32)))), .val (.int (3 : Int32)), .val (.int x3)] [(.int ((((((((0 : Int32) <<< ((8 : Int32) &&& 31)) ||| (x0 &&& (255 : Int32))) <<< ((8 : Int32) &&& 31)) ||| (x1 &&& (255 : Int32))) <<< ((8 : Int32) &&& 31)) ||| (x2 &&& (255 : Int32))) <<< ((8 : Int32) &&& 31)))])
    refine Goes.go (fun _ => XS.iloadN S.here B.x rfl (B.d d_prog_9_method_6_29) rfl) ?_
    show Goes _ _ _ _ T (mkF me_ 30 #[.val (.ref a0), .val (.int p1), .val (.int p2), .val (.int p3), .val (.int (((((((0 : Int32) <<< ((8 : Int32) &&& 31)) ||| (x0 &&& (255 : Int32))) <<< ((8 : Int32) &&& 31)) ||| (x1 &&& (255 : Int32))) <<< ((8 : Int32) &&& 31)) ||| (x2 &&& (255 : Int32)))), .val (.int (3 : Int32)), .val (.int x3)] [(.int p3), (.int ((((((((0 : Int32) <<< ((8 : Int32) &&& 31)) ||| (x0 &&& (255 : Int32))) <<< ((8 : Int32) &&& 31)) ||| (x1 &&& (255 : Int32))) <<< ((8 : Int32) &&& 31)) ||| (x2 &&& (255 : Int32))) <<< ((8 : Int32) &&& 31)))])
    refine Goes.go (fun _ => XS.ifYes S.here B.x rfl (pc0 := 30) (pc' := 38) rfl (B.d d_prog_9_method_6_30) rfl ((if0 _ _).trans (teq (show p3 = (0 : Int32) from hc30)).1) (by decide) (by decide)) ?_
    show Goes _ _ _ _ T (mkF me_ 38 #[.val (.ref a0), .val (.int p1), .val (.int p2), .val (.int p3), .val (.int (((((((0 : Int32) <<< ((8 : Int32) &&& 31)) ||| (x0 &&& (255 : Int32))) <<< ((8 : Int32) &&& 31)) ||| (x1 &&& (255 : Int32))) <<< ((8 : Int32) &&& 31)) ||| (x2 &&& (255 : Int32)))), .val (.int (3 : Int32)), .val (.int x3)] [(.int ((((((((0 : Int32) <<< ((8 : Int32) &&& 31)) ||| (x0 &&& (255 : Int32))) <<< ((8 : Int32) &&& 31)) ||| (x1 &&& (255 : Int32))) <<< ((8 : Int32) &&& 31)) ||| (x2 &&& (255 : Int32))) <<< ((8 : Int32) &&& 31)))])
    refine Goes.go (fun _ => XS.iload S.here B.x rfl (B.d d_prog_9_method_6_38) rfl) ?_
    show Goes _ _ _ _ T (mkF me_ 40 #[.val (.ref a0), .val (.int p1), .val (.int p2), .val (.int p3), .val (.int (((((((0 : Int32) <<< ((8 : Int32) &&& 31)) ||| (x0 &&& (255 : Int32))) <<< ((8 : Int32) &&& 31)) ||| (x1 &&& (255 : Int32))) <<< ((8 : Int32) &&& 31)) ||| (x2 &&& (255 : Int32)))), .val (.int (3 : Int32)), .val (.int x3)] [(.int x3), (.int ((((((((0 : Int32) <<< ((8 : Int32) &&& 31)) ||| (x0 &&& (255 : Int32))) <<< ((8 : Int32) &&& 31)) ||| (x1 &&& (255 : Int32))) <<< ((8 : Int32) &&& 31)) ||| (x2 &&& (255 : Int32))) <<< ((8 : Int32) &&& 31)))])
    refine Goes.go (fun _ => XS.sipush S.here B.x rfl (B.d d_prog_9_method_6_40)) ?_
    show Goes _ _ _ _ T (mkF me_ 43 #[.val (.ref a0), .val (.int p1), .val (.int p2), .val (.int p3), .val (.int (((((((0 : Int32) <<< ((8 : Int32) &&& 31)) ||| (x0 &&& (255 : Int32))) <<< ((8 : Int32) &&& 31)) ||| (x1 &&& (255 : Int32))) <<< ((8 : Int32) &&& 31)) ||| (x2 &&& (255 : Int32)))), .val (.int (3 : Int32)), .val (.int x3)] [(.int (255 : Int32)), (.int x3), (.int ((((((((0 : Int32) <<< ((8 : Int32) &&& 31)) ||| (x0 &&& (255 : Int32))) <<< ((8 : Int32) &&& 31)) ||| (x1 &&& (255 : Int32))) <<< ((8 : Int32) &&& 31)) ||| (x2 &&& (255 : Int32))) <<< ((8 : Int32) &&& 31)))])
    refine Goes.go (fun _ => XS.iand S.here B.x rfl (B.d d_prog_9_method_6_43) rfl) ?_
    show Goes _ _ _ _ T (mkF me_ 44 #[.val (.ref a0), .val (.int p1), .val (.int p2), .val (.int p3), .val (.int (((((((0 : Int32) <<< ((8 : Int32) &&& 31)) ||| (x0 &&& (255 : Int32))) <<< ((8 : Int32) &&& 31)) ||| (x1 &&& (255 : Int32))) <<< ((8 : Int32) &&& 31)) ||| (x2 &&& (255 : Int32)))), .val (.int (3 : Int32)), .val (.int x3)] [(.int (x3 &&& (255 : Int32))), (.int ((((((((0 : Int32) <<< ((8 : Int32) &&& 31)) ||| (x0 &&& (255 : Int32))) <<< ((8 : Int32) &&& 31)) ||| (x1 &&& (255 : Int32))) <<< ((8 : Int32) &&& 31)) ||| (x2 &&& (255 : Int32))) <<< ((8 : Int32) &&& 31)))])
    refine Goes.go (fun _ => XS.ior S.here B.x rfl (B.d d_prog_9_method_6_44) rfl) ?_
    show Goes _ _ _ _ T (mkF me_ 45 #[.val (.ref a0), .val (.int p1), .val (.int p2), .val (.int p3), .val (.int (((((((0 : Int32) <<< ((8 : Int32) &&& 31)) ||| (x0 &&& (255 : Int32))) <<< ((8 : Int32) &&& 31)) ||| (x1 &&& (255 : Int32))) <<< ((8 : Int32) &&& 31)) ||| (x2 &&& (255 : Int32)))), .val (.int (3 : Int32)), .val (.int x3)] [(.int (((((((((0 : Int32) <<< ((8 : Int32) &&& 31)) ||| (x0 &&& (255 : Int32))) <<< ((8 : Int32) &&& 31)) ||| (x1 &&& (255 : Int32))) <<< ((8 : Int32) &&& 31)) ||| (x2 &&& (255 : Int32))) <<< ((8 : Int32) &&& 31)) ||| (x3 &&& (255 : Int32))))])
    refine Goes.go (fun _ => XS.istore S.here B.x rfl (B.d d_prog_9_method_6_45) rfl (l' := #[.val (.ref a0), .val (.int p1), .val (.int p2), .val (.int p3), .val (.int (((((((((0 : Int32) <<< ((8 : Int32) &&& 31)) ||| (x0 &&& (255 : Int32))) <<< ((8 : Int32) &&& 31)) ||| (x1 &&& (255 : Int32))) <<< ((8 : Int32) &&& 31)) ||| (x2 &&& (255 : Int32))) <<< ((8 : Int32) &&& 31)) ||| (x3 &&& (255 : Int32)))), .val (.int (3 : Int32)), .val (.int x3)]) rfl) ?_
    show Goes _ _ _ _ T (mkF me_ 47 #[.val (.ref a0), .val (.int p1), .val (.int p2), .val (.int p3), .val (.int (((((((((0 : Int32) <<< ((8 : Int32) &&& 31)) ||| (x0 &&& (255 : Int32))) <<< ((8 : Int32) &&& 31)) ||| (x1 &&& (255 : Int32))) <<< ((8 : Int32) &&& 31)) ||| (x2 &&& (255 : Int32))) <<< ((8 : Int32) &&& 31)) ||| (x3 &&& (255 : Int32)))), .val (.int (3 : Int32)), .val (.int x3)] [])
    refine Goes.go (fun _ => XS.iinc S.here B.x rfl (B.d d_prog_9_method_6_47) rfl (l' := #[.val (.ref a0), .val (.int p1), .val (.int p2), .val (.int p3), .val (.int (((((((((0 : Int32) <<< ((8 : Int32) &&& 31)) ||| (x0 &&& (255 : Int32))) <<< ((8 : Int32) &&& 31)) ||| (x1 &&& (255 : Int32))) <<< ((8 : Int32) &&& 31)) ||| (x2 &&& (255 : Int32))) <<< ((8 : Int32) &&& 31)) ||| (x3 &&& (255 : Int32)))), .val (.int (4 : Int32)), .val (.int x3)]) rfl) ?_
    show Goes _ _ _ _ T (mkF me_ 50 #[.val (.ref a0), .val (.int p1), .val (.int p2), .val (.int p3), .val (.int (((((((((0 : Int32) <<< ((8 : Int32) &&& 31)) ||| (x0 &&& (255 : Int32))) <<< ((8 : Int32) &&& 31)) ||| (x1 &&& (255 : Int32))) <<< ((8 : Int32) &&& 31)) ||| (x2 &&& (255 : Int32))) <<< ((8 : Int32) &&& 31)) ||| (x3 &&& (255 : Int32)))), .val (.int (4 : Int32)), .val (.int x3)] [])
    refine Goes.go (fun _ => XS.goto S.here B.x rfl (pc0 := 50) (pc' := 6) rfl (B.d d_prog_9_method_6_50) (by decide) (by decide)) ?_
    show Goes _ _ _ _ T (mkF me_ 6 #[.val (.ref a0), .val (.int p1), .val (.int p2), .val (.int p3), .val (.int (((((((((0 : Int32) <<< ((8 : Int32) &&& 31)) ||| (x0 &&& (255 : Int32))) <<< ((8 : Int32) &&& 31)) ||| (x1 &&& (255 : Int32))) <<< ((8 : Int32) &&& 31)) ||| (x2 &&& (255 : Int32))) <<< ((8 : Int32) &&& 31)) ||| (x3 &&& (255 : Int32)))), .val (.int (4 : Int32)), .val (.int x3)] [])
    refine Goes.go (fun _ => XS.iload S.here B.x rfl (B.d d_prog_9_method_6_6) rfl) ?_
    show Goes _ _ _ _ T (mkF me_ 8 #[.val (.ref a0), .val (.int p1), .val (.int p2), .val (.int p3), .val (.int (((((((((0 : Int32) <<< ((8 : Int32) &&& 31)) ||| (x0 &&& (255 : Int32))) <<< ((8 : Int32) &&& 31)) ||| (x1 &&& (255 : Int32))) <<< ((8 : Int32) &&& 31)) ||| (x2 &&& (255 : Int32))) <<< ((8 : Int32) &&& 31)) ||| (x3 &&& (255 : Int32)))), .val (.int (4 : Int32)), .val (.int x3)] [(.int (4 : Int32))])
    refine Goes.go (fun _ => XS.iconst S.here B.x rfl (B.d d_prog_9_method_6_8)) ?_
    show Goes _ _ _ _ T (mkF me_ 9 #[.val (.ref a0), .val (.int p1), .val (.int p2), .val (.int p3), .val (.int (((((((((0 : Int32) <<< ((8 : Int32) &&& 31)) ||| (x0 &&& (255 : Int32))) <<< ((8 : Int32) &&& 31)) ||| (x1 &&& (255 : Int32))) <<< ((8 : Int32) &&& 31)) ||| (x2 &&& (255 : Int32))) <<< ((8 : Int32) &&& 31)) ||| (x3 &&& (255 : Int32)))), .val (.int (4 : Int32)), .val (.int x3)] [(.int (4 : Int32)), (.int (4 : Int32))])
    refine Goes.go (fun _ => XS.icmpYes S.here B.x rfl (pc0 := 9) (pc' := 53) rfl (B.d d_prog_9_method_6_9) rfl (by decide) (by decide) (by decide)) ?_
    show Goes _ _ _ _ T (mkF me_ 53 #[.val (.ref a0), .val (.int p1), .val (.int p2), .val (.int p3), .val (.int (((((((((0 : Int32) <<< ((8 : Int32) &&& 31)) ||| (x0 &&& (255 : Int32))) <<< ((8 : Int32) &&& 31)) ||| (x1 &&& (255 : Int32))) <<< ((8 : Int32) &&& 31)) ||| (x2 &&& (255 : Int32))) <<< ((8 : Int32) &&& 31)) ||| (x3 &&& (255 : Int32)))), .val (.int (4 : Int32)), .val (.int x3)] [])
    refine Goes.go (fun _ => XS.iload S.here B.x rfl (B.d d_prog_9_method_6_53) rfl) ?_
    show Goes _ _ _ _ T (mkF me_ 55 #[.val (.ref a0), .val (.int p1), .val (.int p2), .val (.int p3), .val (.int (((((((((0 : Int32) <<< ((8 : Int32) &&& 31)) ||| (x0 &&& (255 : Int32))) <<< ((8 : Int32) &&& 31)) ||| (x1 &&& (255 : Int32))) <<< ((8 : Int32) &&& 31)) ||| (x2 &&& (255 : Int32))) <<< ((8 : Int32) &&& 31)) ||| (x3 &&& (255 : Int32)))), .val (.int (4 : Int32)), .val (.int x3)] [(.int (((((((((0 : Int32) <<< ((8 : Int32) &&& 31)) ||| (x0 &&& (255 : Int32))) <<< ((8 : Int32) &&& 31)) ||| (x1 &&& (255 : Int32))) <<< ((8 : Int32) &&& 31)) ||| (x2 &&& (255 : Int32))) <<< ((8 : Int32) &&& 31)) ||| (x3 &&& (255 : Int32))))])
    refine Goes.retI S B d_prog_9_method_6_55 (by decide) (by decide) ?_
    exact ⟨(by simp [own_cw, hc30]), rfl⟩
  · skip
    refine Goes.go (fun _ => XS.ifNo S.here B.x rfl (B.d d_prog_9_method_6_30) rfl ((if0 _ _).trans (feq hc30).1)) ?_
    show Goes _ _ _ _ T (mkF me_ 33 #[.val (.ref a0), .val (.int p1), .val (.int p2), .val (.int p3), .val (.int (0 : Int32)), .val (.int (0 : Int32)), .val (.int x0)] [(.int ((0 : Int32) <<< ((8 : Int32) &&& 31)))])
    refine Goes.go (fun _ => XS.iload S.here B.x rfl (B.d d_prog_9_method_6_33) rfl) ?_
    show Goes _ _ _ _ T (mkF me_ 35 #[.val (.ref a0), .val (.int p1), .val (.int p2), .val (.int p3), .val (.int (0 : Int32)), .val (.int (0 : Int32)), .val (.int x0)] [(.int x0), (.int ((0 : Int32) <<< ((8 : Int32) &&& 31)))])
    refine Goes.go (fun _ => XS.goto S.here B.x rfl (pc0 := 35) (pc' := 44) rfl (B.d d_prog_9_method_6_35) (by decide) (by decide)) ?_
    show Goes _ _ _ _ T (mkF me_ 44 #[.val (.ref a0), .val (.int p1), .val (.int p2), .val (.int p3), .val (.int (0 : Int32)), .val (.int (0 : Int32)), .val (.int x0)] [(.int x0), (.int ((0 : Int32) <<< ((8 : Int32) &&& 31)))])
    refine Goes.go (fun _ => XS.ior S.here B.x rfl (B.d d_prog_9_method_6_44) rfl) ?_
    show Goes _ _ _ _ T (mkF me_ 45 #[.val (.ref a0), .val (.int p1), .val (.int p2), .val (.int p3), .val (.int (0 : Int32)), .val (.int (0 : Int32)), .val (.int x0)] [(.int (((0 : Int32) <<< ((8 : Int32) &&& 31)) ||| x0))])
    refine Goes.go (fun _ => XS.istore S.here B.x rfl (B.d d_prog_9_method_6_45) rfl (l' := #[.val (.ref a0), .val (.int p1), .val (.int p2), .val (.int p3), .val (.int (((0 : Int32) <<< ((8 : Int32) &&& 31)) ||| x0)), .val (.int (0 : Int32)), .val (.int x0)]) rfl) ?_
    show Goes _ _ _ _ T (mkF me_ 47 #[.val (.ref a0), .val (.int p1), .val (.int p2), .val (.int p3), .val (.int (((0 : Int32) <<< ((8 : Int32) &&& 31)) ||| x0)), .val (.int (0 : Int32)), .val (.int x0)] [])
    refine Goes.go (fun _ => XS.iinc S.here B.x rfl (B.d d_prog_9_method_6_47) rfl (l' := #[.val (.ref a0), .val (.int p1), .val (.int p2), .val (.int p3), .val (.int (((0 : Int32) <<< ((8 : Int32) &&& 31)) ||| x0)), .val (.int (1 : Int32)), .val (.int x0)]) rfl) ?_
    show Goes _ _ _ _ T (mkF me_ 50 #[.val (.ref a0), .val (.int p1), .val (.int p2), .val (.int p3), .val (.int (((0 : Int32) <<< ((8 : Int32) &&& 31)) ||| x0)), .val (.int (1 : Int32)), .val (.int x0)] [])
    refine Goes.go (fun _ => XS.goto S.here B.x rfl (pc0 := 50) (pc' := 6) rfl (B.d d_prog_9_method_6_50) (by decide) (by decide)) ?_
    show Goes _ _ _ _ T (mkF me_ 6 #[.val (.ref a0), .val (.int p1), .val (.int p2), .val (.int p3), .val (.int (((0 : Int32) <<< ((8 : Int32) &&& 31)) ||| x0)), .val (.int (1 : Int32)), .val (.int x0)] [])
    refine Goes.go (fun _ => XS.iload S.here B.x rfl (B.d d_prog_9_method_6_6) rfl) ?_
    show Goes _ _ _ _ T (mkF me_ 8 #[.val (.ref a0), .val (.int p1), .val (.int p2), .val (.int p3), .val (.int (((0 : Int32) <<< ((8 : Int32) &&& 31)) ||| x0)), .val (.int (1 : Int32)), .val (.int x0)] [(.int (1 : Int32))])
    refine Goes.go (fun _ => XS.iconst S.here B.x rfl (B.d d_prog_9_method_6_8)) ?_
    show Goes _ _ _ _ T (mkF me_ 9 #[.val (.ref a0), .val (.int p1), .val (.int p2), .val (.int p3), .val (.int (((0 : Int32) <<< ((8 : Int32) &&& 31)) ||| x0)), .val (.int (1 : Int32)), .val (.int x0)] [(.int (4 : Int32)), (.int (1 : Int32))])
    refine Goes.go (fun _ => XS.icmpNo S.here B.x rfl (B.d d_prog_9_method_6_9) rfl (by decide)) ?_
    show Goes _ _ _ _ T (mkF me_ 12 #[.val (.ref a0), .val (.int p1), .val (.int p2), .val (.int p3), .val (.int (((0 : Int32) <<< ((8 : Int32) &&& 31)) ||| x0)), .val (.int (1 : Int32)), .val (.int x0)] [])
    refine Goes.go (fun _ => XS.aloadN S.here B.x rfl (B.d d_prog_9_method_6_12) rfl rfl) ?_
    show Goes _ _ _ _ T (mkF me_ 13 #[.val (.ref a0), .val (.int p1), .val (.int p2), .val (.int p3), .val (.int (((0 : Int32) <<< ((8 : Int32) &&& 31)) ||| x0)), .val (.int (1 : Int32)), .val (.int x0)] [(.ref a0)])
    refine Goes.go (fun _ => XS.iconst S.here B.x rfl (B.d d_prog_9_method_6_13)) ?_
    show Goes _ _ _ _ T (mkF me_ 14 #[.val (.ref a0), .val (.int p1), .val (.int p2), .val (.int p3), .val (.int (((0 : Int32) <<< ((8 : Int32) &&& 31)) ||| x0)), .val (.int (1 : Int32)), .val (.int x0)] [(.int (4 : Int32)), (.ref a0)])
    refine Goes.go (fun _ => XS.iloadN S.here B.x rfl (B.d d_prog_9_method_6_14) rfl) ?_
    show Goes _ _ _ _ T (mkF me_ 15 #[.val (.ref a0), .val (.int p1), .val (.int p2), .val (.int p3), .val (.int (((0 : Int32) <<< ((8 : Int32) &&& 31)) ||| x0)), .val (.int (1 : Int32)), .val (.int x0)] [(.int p2), (.int (4 : Int32)), (.ref a0)])
    refine Goes.go (fun _ => XS.imul S.here B.x rfl (B.d d_prog_9_method_6_15) rfl) ?_
    show Goes _ _ _ _ T (mkF me_ 16 #[.val (.ref a0), .val (.int p1), .val (.int p2), .val (.int p3), .val (.int (((0 : Int32) <<< ((8 : Int32) &&& 31)) ||| x0)), .val (.int (1 : Int32)), .val (.int x0)] [(.int ((4 : Int32) * p2)), (.ref a0)])
    refine Goes.go (fun _ => XS.iload S.here B.x rfl (B.d d_prog_9_method_6_16) rfl) ?_
    show Goes _ _ _ _ T (mkF me_ 18 #[.val (.ref a0), .val (.int p1), .val (.int p2), .val (.int p3), .val (.int (((0 : Int32) <<< ((8 : Int32) &&& 31)) ||| x0)), .val (.int (1 : Int32)), .val (.int x0)] [(.int (1 : Int32)), (.int ((4 : Int32) * p2)), (.ref a0)])
    refine Goes.go (fun _ => XS.iadd S.here B.x rfl (B.d d_prog_9_method_6_18) rfl) ?_
    show Goes _ _ _ _ T (mkF me_ 19 #[.val (.ref a0), .val (.int p1), .val (.int p2), .val (.int p3), .val (.int (((0 : Int32) <<< ((8 : Int32) &&& 31)) ||| x0)), .val (.int (1 : Int32)), .val (.int x0)] [(.int (((4 : Int32) * p2) + (1 : Int32))), (.ref a0)])
    refine Goes.go (fun _ => XS.iloadN S.here B.x rfl (B.d d_prog_9_method_6_19) rfl) ?_
    show Goes _ _ _ _ T (mkF me_ 20 #[.val (.ref a0), .val (.int p1), .val (.int p2), .val (.int p3), .val (.int (((0 : Int32) <<< ((8 : Int32) &&& 31)) ||| x0)), .val (.int (1 : Int32)), .val (.int x0)] [(.int p1), (.int (((4 : Int32) * p2) + (1 : Int32))), (.ref a0)])
    refine Goes.irem S B d_prog_9_method_6_20 hz ?_
    show Goes _ _ _ _ T (mkF me_ 21 #[.val (.ref a0), .val (.int p1), .val (.int p2), .val (.int p3), .val (.int (((0 : Int32) <<< ((8 : Int32) &&& 31)) ||| x0)), .val (.int (1 : Int32)), .val (.int x0)] [(.int ((((4 : Int32) * p2) + (1 : Int32)) % p1)), (.ref a0)])
    refine Goes.baload S B A_a0 hn1 hl1 d_prog_9_method_6_21 (v := (.int x1)) (congrArg Value.int hf1) ?_
    show Goes _ _ _ _ T (mkF me_ 22 #[.val (.ref a0), .val (.int p1), .val (.int p2), .val (.int p3), .val (.int (((0 : Int32) <<< ((8 : Int32) &&& 31)) ||| x0)), .val (.int (1 : Int32)), .val (.int x0)] [(.int x1)])
    refine Goes.go (fun _ => XS.istore S.here B.x rfl (B.d d_prog_9_method_6_22) rfl (l' := #[.val (.ref a0), .val (.int p1), .val (.int p2), .val (.int p3), .val (.int (((0 : Int32) <<< ((8 : Int32) &&& 31)) ||| x0)), .val (.int (1 : Int32)), .val (.int x1)]) rfl) ?_
    show Goes _ _ _ _ T (mkF me_ 24 #[.val (.ref a0), .val (.int p1), .val (.int p2), .val (.int p3), .val (.int (((0 : Int32) <<< ((8 : Int32) &&& 31)) ||| x0)), .val (.int (1 : Int32)), .val (.int x1)] [])
    refine Goes.go (fun _ => XS.iload S.here B.x rfl (B.d d_prog_9_method_6_24) rfl) ?_
    show Goes _ _ _ _ T (mkF me_ 26 #[.val (.ref a0), .val (.int p1), .val (.int p2), .val (.int p3), .val (.int (((0 : Int32) <<< ((8 : Int32) &&& 31)) ||| x0)), .val (.int (1 : Int32)), .val (.int x1)] [(.int (((0 : Int32) <<< ((8 : Int32) &&& 31)) ||| x0))])
    refine Goes.go (fun _ => XS.bipush S.here B.x rfl (B.d d_prog_9_method_6_26)) ?_
    show Goes _ _ _ _ T (mkF me_ 28 #[.val (.ref a0), .val (.int p1), .val (.int p2), .val (.int p3), .val (.int (((0 : Int32) <<< ((8 : Int32) &&& 31)) ||| x0)), .val (.int (1 : Int32)), .val (.int x1)] [(.int (8 : Int32)), (.int (((0 : Int32) <<< ((8 : Int32) &&& 31)) ||| x0))])
    refine Goes.go (fun _ => XS.ishl S.here B.x rfl (B.d d_prog_9_method_6_28) rfl) ?_
    show Goes _ _ _ _ T (mkF me_ 29 #[.val (.ref a0), .val (.int p1), .val (.int p2), .val (.int p3), .val (.int (((0 : Int32) <<< ((8 : Int32) &&& 31)) ||| x0)), .val (.int (1 : Int32)), .val (.int x1)] [(.int ((((0 : Int32) <<< ((8 : Int32) &&& 31)) ||| x0) <<< ((8 : Int32) &&& 31)))])
    refine Goes.go (fun _ => XS.iloadN S.here B.x rfl (B.d d_prog_9_method_6_29) rfl) ?_
    show Goes _ _ _ _ T (mkF me_ 30 #[.val (.ref a0), .val (.int p1), .val (.int p2), .val (.int p3), .val (.int (((0 : Int32) <<< ((8 : Int32) &&& 31)) ||| x0)), .val (.int (1 : Int32)), .val (.int x1)] [(.int p3), (.int ((((0 : Int32) <<< ((8 : Int32) &&& 31)) ||| x0) <<< ((8 : Int32) &&& 31)))])
    refine Goes.go (fun _ => XS.ifNo S.here B.x rfl (B.d d_prog_9_method_6_30) rfl ((if0 _ _).trans (feq (show ¬ (p3 = (0 : Int32)) from hc30)).1)) ?_
    show Goes _ _ _ _ T (mkF me_ 33 #[.val (.ref a0), .val (.int p1), .val (.int p2), .val (.int p3), .val (.int (((0 : Int32) <<< ((8 : Int32) &&& 31)) ||| x0)), .val (.int (1 : Int32)), .val (.int x1)] [(.int ((((0 : Int32) <<< ((8 : Int32) &&& 31)) ||| x0) <<< ((8 : Int32) &&& 31)))])
    refine Goes.go (fun _ => XS.iload S.here B.x rfl (B.d d_prog_9_method_6_33) rfl) ?_
    show Goes _ _ _ _ T (mkF me_ 35 #[.val (.ref a0), .val (.int p1), .val (.int p2), .val (.int p3), .val (.int (((0 : Int32) <<< ((8 : Int32) &&& 31)) ||| x0)), .val (.int (1 : Int32)), .val (.int x1)] [(.int x1), (.int ((((0 : Int32) <<< ((8 : Int32) &&& 31)) ||| x0) <<< ((8 : Int32) &&& 31)))])
    refine Goes.go (fun _ => XS.goto S.here B.x rfl (pc0 := 35) (pc' := 44) rfl (B.d d_prog_9_method_6_35) (by decide) (by decide)) ?_
    show Goes _ _ _ _ T (mkF me_ 44 #[.val (.ref a0), .val (.int p1), .val (.int p2), .val (.int p3), .val (.int (((0 : Int32) <<< ((8 : Int32) &&& 31)) ||| x0)), .val (.int (1 : Int32)), .val (.int x1)] [(.int x1), (.int ((((0 : Int32) <<< ((8 : Int32) &&& 31)) ||| x0) <<< ((8 : Int32) &&& 31)))])
    refine Goes.go (fun _ => XS.ior S.here B.x rfl (B.d d_prog_9_method_6_44) rfl) ?_
    show Goes _ _ _ _ T (mkF me_ 45 #[.val (.ref a0), .val (.int p1), .val (.int p2), .val (.int p3), .val (.int (((0 : Int32) <<< ((8 : Int32) &&& 31)) ||| x0)), .val (.int (1 : Int32)), .val (.int x1)] [(.int (((((0 : Int32) <<< ((8 : Int32) &&& 31)) ||| x0) <<< ((8 : Int32) &&& 31)) ||| x1))])
    refine Goes.go (fun _ => XS.istore S.here B.x rfl (B.d d_prog_9_method_6_45) rfl (l' := #[.val (.ref a0), .val (.int p1), .val (.int p2), .val (.int p3), .val (.int (((((0 : Int32) <<< ((8 : Int32) &&& 31)) ||| x0) <<< ((8 : Int32) &&& 31)) ||| x1)), .val (.int (1 : Int32)), .val (.int x1)]) rfl) ?_
    show Goes _ _ _ _ T (mkF me_ 47 #[.val (.ref a0), .val (.int p1), .val (.int p2), .val (.int p3), .val (.int (((((0 : Int32) <<< ((8 : Int32) &&& 31)) ||| x0) <<< ((8 : Int32) &&& 31)) ||| x1)), .val (.int (1 : Int32)), .val (.int x1)] [])
    refine Goes.go (fun _ => XS.iinc S.here B.x rfl (B.d d_prog_9_method_6_47) rfl (l' := #[.val (.ref a0), .val (.int p1), .val (.int p2), .val (.int p3), .val (.int (((((0 : Int32) <<< ((8 : Int32) &&& 31)) ||| x0) <<< ((8 : Int32) &&& 31)) ||| x1)), .val (.int (2 : Int32)), .val (.int x1)]) rfl) ?_
    show Goes _ _ _ _ T (mkF me_ 50 #[.val (.ref a0), .val (.int p1), .val (.int p2), .val (.int p3), .val (.int (((((0 : Int32) <<< ((8 : Int32) &&& 31)) ||| x0) <<< ((8 : Int32) &&& 31)) ||| x1)), .val (.int (2 : Int32)), .val (.int x1)] [])
    refine Goes.go (fun _ => XS.goto S.here B.x rfl (pc0 := 50) (pc' := 6) rfl (B.d d_prog_9_method_6_50) (by decide) (by decide)) ?_
    show Goes _ _ _ _ T (mkF me_ 6 #[.val (.ref a0), .val (.int p1), .val (.int p2), .val (.int p3), .val (.int (((((0 : Int32) <<< ((8 : Int32) &&& 31)) ||| x0) <<< ((8 : Int32) &&& 31)) ||| x1)), .val (.int (2 : Int32)), .val (.int x1)] [])
    refine Goes.go (fun _ => XS.iload S.here B.x rfl (B.d d_prog_9_method_6_6) rfl) ?_
    show Goes _ _ _ _ T (mkF me_ 8 #[.val (.ref a0), .val (.int p1), .val (.int p2), .val (.int p3), .val (.int (((((0 : Int32) <<< ((8 : Int32) &&& 31)) ||| x0) <<< ((8 : Int32) &&& 31)) ||| x1)), .val (.int (2 : Int32)), .val (.int x1)] [(.int (2 : Int32))])
    refine Goes.go (fun _ => XS.iconst S.here B.x rfl (B.d d_prog_9_method_6_8)) ?_
    show Goes _ _ _ _ T (mkF me_ 9 #[.val (.ref a0), .val (.int p1), .val (.int p2), .val (.int p3), .val (.int (((((0 : Int32) <<< ((8 : Int32) &&& 31)) ||| x0) <<< ((8 : Int32) &&& 31)) ||| x1)), .val (.int (2 : Int32)), .val (.int x1)] [(.int (4 : Int32)), (.int (2 : Int32))])
    refine Goes.go (fun _ => XS.icmpNo S.here B.x rfl (B.d d_prog_9_method_6_9) rfl (by decide)) ?_
    show Goes _ _ _ _ T (mkF me_ 12 #[.val (.ref a0), .val (.int p1), .val (.int p2), .val (.int p3), .val (.int (((((0 : Int32) <<< ((8 : Int32) &&& 31)) ||| x0) <<< ((8 : Int32) &&& 31)) ||| x1)), .val (.int (2 : Int32)), .val (.int x1)] [])
    refine Goes.go (fun _ => XS.aloadN S.here B.x rfl (B.d d_prog_9_method_6_12) rfl rfl) ?_
    show Goes _ _ _ _ T (mkF me_ 13 #[.val (.ref a0), .val (.int p1), .val (.int p2), .val (.int p3), .val (.int (((((0 : Int32) <<< ((8 : Int32) &&& 31)) ||| x0) <<< ((8 : Int32) &&& 31)) ||| x1)), .val (.int (2 : Int32)), .val (.int x1)] [(.ref a0)])
    refine Goes.go (fun _ => XS.iconst S.here B.x rfl (B.d d_prog_9_method_6_13)) ?_
    show Goes _ _ _ _ T (mkF me_ 14 #[.val (.ref a0), .val (.int p1), .val (.int p2), .val (.int p3), .val (.int (((((0 : Int32) <<< ((8 : Int32) &&& 31)) ||| x0) <<< ((8 : Int32) &&& 31)) ||| x1)), .val (.int (2 : Int32)), .val (.int x1)] [(.int (4 : Int32)), (.ref a0)])
    refine Goes.go (fun _ => XS.iloadN S.here B.x rfl (B.d d_prog_9_method_6_14) rfl) ?_
    show Goes _ _ _ _ T (mkF me_ 15 #[.val (.ref a0), .val (.int p1), .val (.int p2), .val (.int p3), .val (.int (((((0 : Int32) <<< ((8 : Int32) &&& 31)) ||| x0) <<< ((8 : Int32) &&& 31)) ||| x1)), .val (.int (2 : Int32)), .val (.int x1)] [(.int p2), (.int (4 : Int32)), (.ref a0)])
    refine Goes.go (fun _ => XS.imul S.here B.x rfl (B.d d_prog_9_method_6_15) rfl) ?_
    show Goes _ _ _ _ T (mkF me_ 16 #[.val (.ref a0), .val (.int p1), .val (.int p2), .val (.int p3), .val (.int (((((0 : Int32) <<< ((8 : Int32) &&& 31)) ||| x0) <<< ((8 : Int32) &&& 31)) ||| x1)), .val (.int (2 : Int32)), .val (.int x1)] [(.int ((4 : Int32) * p2)), (.ref a0)])
    refine Goes.go (fun _ => XS.iload S.here B.x rfl (B.d d_prog_9_method_6_16) rfl) ?_
    show Goes _ _ _ _ T (mkF me_ 18 #[.val (.ref a0), .val (.int p1), .val (.int p2), .val (.int p3), .val (.int (((((0 : Int32) <<< ((8 : Int32) &&& 31)) ||| x0) <<< ((8 : Int32) &&& 31)) ||| x1)), .val (.int (2 : Int32)), .val (.int x1)] [(.int (2 : Int32)), (.int ((4 : Int32) * p2)), (.ref a0)])
    refine Goes.go (fun _ => XS.iadd S.here B.x rfl (B.d d_prog_9_method_6_18) rfl) ?_
    show Goes _ _ _ _ T (mkF me_ 19 #[.val (.ref a0), .val (.int p1), .val (.int p2), .val (.int p3), .val (.int (((((0 : Int32) <<< ((8 : Int32) &&& 31)) ||| x0) <<< ((8 : Int32) &&& 31)) ||| x1)), .val (.int (2 : Int32)), .val (.int x1)] [(.int (((4 : Int32) * p2) + (2 : Int32))), (.ref a0)])
    refine Goes.go (fun _ => XS.iloadN S.here B.x rfl (B.d d_prog_9_method_6_19) rfl) ?_
    show Goes _ _ _ _ T (mkF me_ 20 #[.val (.ref a0), .val (.int p1), .val (.int p2), .val (.int p3), .val (.int (((((0 : Int32) <<< ((8 : Int32) &&& 31)) ||| x0) <<< ((8 : Int32) &&& 31)) ||| x1)), .val (.int (2 : Int32)), .val (.int x1)] [(.int p1), (.int (((4 : Int32) * p2) + (2 : Int32))), (.ref a0)])
    refine Goes.irem S B d_prog_9_method_6_20 hz ?_
    show Goes _ _ _ _ T (mkF me_ 21 #[.val (.ref a0), .val (.int p1), .val (.int p2), .val (.int p3), .val (.int (((((0 : Int32) <<< ((8 : Int32) &&& 31)) ||| x0) <<< ((8 : Int32) &&& 31)) ||| x1)), .val (.int (2 : Int32)), .val (.int x1)] [(.int ((((4 : Int32) * p2) + (2 : Int32)) % p1)), (.ref a0)])
    refine Goes.baload S B A_a0 hn2 hl2 d_prog_9_method_6_21 (v := (.int x2)) (congrArg Value.int hf2) ?_
    show Goes _ _ _ _ T (mkF me_ 22 #[.val (.ref a0), .val (.int p1), .val (.int p2), .val (.int p3), .val (.int (((((0 : Int32) <<< ((8 : Int32) &&& 31)) ||| x0) <<< ((8 : Int32) &&& 31)) ||| x1)), .val (.int (2 : Int32)), .val (.int x1)] [(.int x2)])
    refine Goes.go (fun _ => XS.istore S.here B.x rfl (B.d d_prog_9_method_6_22) rfl (l' := #[.val (.ref a0), .val (.int p1), .val (.int p2), .val (.int p3), .val (.int (((((0 : Int32) <<< ((8 : Int32) &&& 31)) ||| x0) <<< ((8 : Int32) &&& 31)) ||| x1)), .val (.int (2 : Int32)), .val (.int x2)]) rfl) ?_
    show Goes _ _ _ _ T (mkF me_ 24 #[.val (.ref a0), .val (.int p1), .val (.int p2), .val (.int p3), .val (.int (((((0 : Int32) <<< ((8 : Int32) &&& 31)) ||| x0) <<< ((8 : Int32) &&& 31)) ||| x1)), .val (.int (2 : Int32)), .val (.int x2)] [])
    refine Goes.go (fun _ => XS.iload S.here B.x rfl (B.d d_prog_9_method_6_24) rfl) ?_
    show Goes _ _ _ _ T (mkF me_ 26 #[.val (.ref a0), .val (.int p1), .val (.int p2), .val (.int p3), .val (.int (((((0 : Int32) <<< ((8 : Int32) &&& 31)) ||| x0) <<< ((8 : Int32) &&& 31)) ||| x1)), .val (.int (2 : Int32)), .val (.int x2)] [(.int (((((0 : Int32) <<< ((8 : Int32) &&& 31)) ||| x0) <<< ((8 : Int32) &&& 31)) ||| x1))])
    refine Goes.go (fun _ => XS.bipush S.here B.x rfl (B.d d_prog_9_method_6_26)) ?_
    show Goes _ _ _ _ T (mkF me_ 28 #[.val (.ref a0), .val (.int p1), .val (.int p2), .val (.int p3), .val (.int (((((0 : Int32) <<< ((8 : Int32) &&& 31)) ||| x0) <<< ((8 : Int32) &&& 31)) ||| x1)), .val (.int (2 : Int32)), .val (.int x2)] [(.int (8 : Int32)), (.int (((((0 : Int32) <<< ((8 : Int32) &&& 31)) ||| x0) <<< ((8 : Int32) &&& 31)) ||| x1))])
    refine Goes.go (fun _ => XS.ishl S.here B.x rfl (B.d d_prog_9_method_6_28) rfl) ?_
    show Goes _ _ _ _ T (mkF me_ 29 #[.val (.ref a0), .val (.int p1), .val (.int p2), .val (.int p3), .val (.int (((((0 : Int32) <<< ((8 : Int32) &&& 31)) ||| x0) <<< ((8 : Int32) &&& 31)) ||| x1)), .val (.int (2 : Int32)), .val (.int x2)] [(.int ((((((0 : Int32) <<< ((8 : Int32) &&& 31)) ||| x0) <<< ((8 : Int32) &&& 31)) ||| x1) <<< ((8 : Int32) &&& 31)))])
    refine Goes.go (fun _ => XS.iloadN S.here B.x rfl (B.d d_prog_9_method_6_29) rfl) ?_
    show Goes _ _ _ _ T (mkF me_ 30 #[.val (.ref a0), .val (.int p1), .val (.int p2), .val (.int p3), .val (.int (((((0 : Int32) <<< ((8 : Int32) &&& 31)) ||| x0) <<< ((8 : Int32) &&& 31)) ||| x1)), .val (.int (2 : Int32)), .val (.int x2)] [(.int p3), (.int ((((((0 : Int32) <<< ((8 : Int32) &&& 31)) ||| x0) <<< ((8 : Int32) &&& 31)) ||| x1) <<< ((8 : Int32) &&& 31)))])
    refine Goes.go (fun _ => XS.ifNo S.here B.x rfl (B.d d_prog_9_method_6_30) rfl ((if0 _ _).trans (feq (show ¬ (p3 = (0 : Int32)) from hc30)).1)) ?_
    show Goes _ _ _ _ T (mkF me_ 33 #[.val (.ref a0), .val (.int p1), .val (.int p2), .val (.int p3), .val (.int (((((0 : Int32) <<< ((8 : Int32) &&& 31)) ||| x0) <<< ((8 : Int32) &&& 31)) ||| x1)), .val (.int (2 : Int32)), .val (.int x2)] [(.int ((((((0 : Int32) <<< ((8 : Int32) &&& 31)) ||| x0) <<< ((8 : Int32) &&& 31)) ||| x1) <<< ((8 : Int32) &&& 31)))])
    refine Goes.go (fun _ => XS.iload S.here B.x rfl (B.d d_prog_9_method_6_33) rfl) ?_
    show Goes _ _ _ _ T (mkF me_ 35 #[.val (.ref a0), .val (.int p1), .val (.int p2), .val (.int p3), .val (.int (((((0 : Int32) <<< ((8 : Int32) &&& 31)) ||| x0) <<< ((8 : Int32) &&& 31)) ||| x1)), .val (.int (2 : Int32)), .val (.int x2)] [(.int x2), (.int ((((((0 : Int32) <<< ((8 : Int32) &&& 31)) ||| x0) <<< ((8 : Int32) &&& 31)) ||| x1) <<< ((8 : Int32) &&& 31)))])
    refine Goes.go (fun _ => XS.goto S.here B.x rfl (pc0 := 35) (pc' := 44) rfl (B.d d_prog_9_method_6_35) (by decide) (by decide)) ?_
    show Goes _ _ _ _ T (mkF me_ 44 #[.val (.ref a0), .val (.int p1), .val (.int p2), .val (.int p3), .val (.int (((((0 : Int32) <<< ((8 : Int32) &&& 31)) ||| x0) <<< ((8 : Int32) &&& 31)) ||| x1)), .val (.int (2 : Int32)), .val (.int x2)] [(.int x2), (.int ((((((0 : Int32) <<< ((8 : Int32) &&& 31)) ||| x0) <<< ((8 : Int32) &&& 31)) ||| x1) <<< ((8 : Int32) &&& 31)))])
    refine Goes.go (fun _ => XS.ior S.here B.x rfl (B.d d_prog_9_method_6_44) rfl) ?_
    show Goes _ _ _ _ T (mkF me_ 45 #[.val (.ref a0), .val (.int p1), .val (.int p2), .val (.int p3), .val (.int (((((0 : Int32) <<< ((8 : Int32) &&& 31)) ||| x0) <<< ((8 : Int32) &&& 31)) ||| x1)), .val (.int (2 : Int32)), .val (.int x2)] [(.int (((((((0 : Int32) <<< ((8 : Int32) &&& 31)) ||| x0) <<< ((8 : Int32) &&& 31)) ||| x1) <<< ((8 : Int32) &&& 31)) ||| x2))])
    refine Goes.go (fun _ => XS.istore S.here B.x rfl (B.d d_prog_9_method_6_45) rfl (l' := #[.val (.ref a0), .val (.int p1), .val (.int p2), .val (.int p3), .val (.int (((((((0 : Int32) <<< ((8 : Int32) &&& 31)) ||| x0) <<< ((8 : Int32) &&& 31)) ||| x1) <<< ((8 : Int32) &&& 31)) ||| x2)), .val (.int (2 : Int32)), .val (.int x2)]) rfl) ?_
    show Goes _ _ _ _ T (mkF me_ 47 #[.val (.ref a0), .val (.int p1), .val (.int p2), .val (.int p3), .val (.int (((((((0 : Int32) <<< ((8 : Int32) &&& 31)) ||| x0) <<< ((8 : Int32) &&& 31)) ||| x1) <<< ((8 : Int32) &&& 31)) ||| x2)), .val (.int (2 : Int32)), .val (.int x2)] [])
    refine Goes.go (fun _ => XS.iinc S.here B.x rfl (B.d d_prog_9_method_6_47) rfl (l' := #[.val (.ref a0), .val (.int p1), .val (.int p2), .val (.int p3), .val (.int (((((((0 : Int32) <<< ((8 : Int32) &&& 31)) ||| x0) <<< ((8 : Int32) &&& 31)) ||| x1) <<< ((8 : Int32) &&& 31)) ||| x2)), .val (.int (3 : Int32)), .val (.int x2)]) rfl) ?_
    show Goes _ _ _ _ T (mkF me_ 50 #[.val (.ref a0), .val (.int p1), .val (.int p2), .val (.int p3), .val (.int (((((((0 : Int32) <<< ((8 : Int32) &&& 31)) ||| x0) <<< ((8 : Int32) &&& 31)) ||| x1) <<< ((8 : Int32) &&& 31)) ||| x2)), .val (.int (3 : Int32)), .val (.int x2)] [])
    refine Goes.go (fun _ => XS.goto S.here B.x rfl (pc0 := 50) (pc' := 6) rfl (B.d d_prog_9_method_6_50) (by decide) (by decide)) ?_
    show Goes _ _ _ _ T (mkF me_ 6 #[.val (.ref a0), .val (.int p1), .val (.int p2), .val (.int p3), .val (.int (((((((0 : Int32) <<< ((8 : Int32) &&& 31)) ||| x0) <<< ((8 : Int32) &&& 31)) ||| x1) <<< ((8 : Int32) &&& 31)) ||| x2)), .val (.int (3 : Int32)), .val (.int x2)] [])
    refine Goes.go (fun _ => XS.iload S.here B.x rfl (B.d d_prog_9_method_6_6) rfl) ?_
    show Goes _ _ _ _ T (mkF me_ 8 #[.val (.ref a0), .val (.int p1), .val (.int p2), .val (.int p3), .val (.int (((((((0 : Int32) <<< ((8 : Int32) &&& 31)) ||| x0) <<< ((8 : Int32) &&& 31)) ||| x1) <<< ((8 : Int32) &&& 31)) ||| x2)), .val (.int (3 : Int32)), .val (.int x2)] [(.int (3 : Int32))])
    refine Goes.go (fun _ => XS.iconst S.here B.x rfl (B.d d_prog_9_method_6_8)) ?_
    show Goes _ _ _ _ T (mkF me_ 9 #[.val (.ref a0), .val (.int p1), .val (.int p2), .val (.int p3), .val (.int (((((((0 : Int32) <<< ((8 : Int32) &&& 31)) ||| x0) <<< ((8 : Int32) &&& 31)) ||| x1) <<< ((8 : Int32) &&& 31)) ||| x2)), .val (.int (3 : Int32)), .val (.int x2)] [(.int (4 : Int32)), (.int (3 : Int32))])
    refine Goes.go (fun _ => XS.icmpNo S.here B.x rfl (B.d d_prog_9_method_6_9) rfl (by decide)) ?_
    show Goes _ _ _ _ T (mkF me_ 12 #[.val (.ref a0), .val (.int p1), .val (.int p2), .val (.int p3), .val (.int (((((((0 : Int32) <<< ((8 : Int32) &&& 31)) ||| x0) <<< ((8 : Int32) &&& 31)) ||| x1) <<< ((8 : Int32) &&& 31)) ||| x2)), .val (.int (3 : Int32)), .val (.int x2)] [])
    refine Goes.go (fun _ => XS.aloadN S.here B.x rfl (B.d d_prog_9_method_6_12) rfl rfl) ?_
    show Goes _ _ _ _ T (mkF me_ 13 #[.val (.ref a0), .val (.int p1), .val (.int p2), .val (.int p3), .val (.int (((((((0 : Int32) <<< ((8 : Int32) &&& 31)) ||| x0) <<< ((8 : Int32) &&& 31)) ||| x1) <<< ((8 : Int32) &&& 31)) ||| x2)), .val (.int (3 : Int32)), .val (.int x2)] [(.ref a0)])
    refine Goes.go (fun _ => XS.iconst S.here B.x rfl (B.d d_prog_9_method_6_13)) ?_
    show Goes _ _ _ _ T (mkF me_ 14 #[.val (.ref a0), .val (.int p1), .val (.int p2), .val (.int p3), .val (.int (((((((0 : Int32) <<< ((8 : Int32) &&& 31)) ||| x0) <<< ((8 : Int32) &&& 31)) ||| x1) <<< ((8 : Int32) &&& 31)) ||| x2)), .val (.int (3 : Int32)), .val (.int x2)] [(.int (4 : Int32)), (.ref a0)])
    refine Goes.go (fun _ => XS.iloadN S.here B.x rfl (B.d d_prog_9_method_6_14) rfl) ?_
    show Goes _ _ _ _ T (mkF me_ 15 #[.val (.ref a0), .val (.int p1), .val (.int p2), .val (.int p3), .val (.int (((((((0 : Int32) <<< ((8 : Int32) &&& 31)) ||| x0) <<< ((8 : Int32) &&& 31)) ||| x1) <<< ((8 : Int32) &&& 31)) ||| x2)), .val (.int (3 : Int32)), .val (.int x2)] [(.int p2), (.int (4 : Int32)), (.ref a0)])
    refine Goes.go (fun _ => XS.imul S.here B.x rfl (B.d d_prog_9_method_6_15) rfl) ?_
    show Goes _ _ _ _ T (mkF me_ 16 #[.val (.ref a0), .val (.int p1), .val (.int p2), .val (.int p3), .val (.int (((((((0 : Int32) <<< ((8 : Int32) &&& 31)) ||| x0) <<< ((8 : Int32) &&& 31)) ||| x1) <<< ((8 : Int32) &&& 31)) ||| x2)), .val (.int (3 : Int32)), .val (.int x2)] [(.int ((4 : Int32) * p2)), (.ref a0)])
    refine Goes.go (fun _ => XS.iload S.here B.x rfl (B.d d_prog_9_method_6_16) rfl) ?_
    show Goes _ _ _ _ T (mkF me_ 18 #[.val (.ref a0), .val (.int p1), .val (.int p2), .val (.int p3), .val (.int (((((((0 : Int32) <<< ((8 : Int32) &&& 31)) ||| x0) <<< ((8 : Int32) &&& 31)) ||| x1) <<< ((8 : Int32) &&& 31)) ||| x2)), .val (.int (3 : Int32)), .val (.int x2)] [(.int (3 : Int32)), (.int ((4 : Int32) * p2)), (.ref a0)])
    refine Goes.go (fun _ => XS.iadd S.here B.x rfl (B.d d_prog_9_method_6_18) rfl) ?_
    show Goes _ _ _ _ T (mkF me_ 19 #[.val (.ref a0), .val (.int p1), .val (.int p2), .val (.int p3), .val (.int (((((((0 : Int32) <<< ((8 : Int32) &&& 31)) ||| x0) <<< ((8 : Int32) &&& 31)) ||| x1) <<< ((8 : Int32) &&& 31)) ||| x2)), .val (.int (3 : Int32)), .val (.int x2)] [(.int (((4 : Int32) * p2) + (3 : Int32))), (.ref a0)])
    refine Goes.go (fun _ => XS.iloadN S.here B.x rfl (B.d d_prog_9_method_6_19) rfl) ?_
    show Goes _ _ _ _ T (mkF me_ 20 #[.val (.ref a0), .val (.int p1), .val (.int p2), .val (.int p3), .val (.int (((((((0 : Int32) <<< ((8 : Int32) &&& 31)) ||| x0) <<< ((8 : Int32) &&& 31)) ||| x1) <<< ((8 : Int32) &&& 31)) ||| x2)), .val (.int (3 : Int32)), .val (.int x2)] [(.int p1), (.int (((4 : Int32) * p2) + (3 : Int32))), (.ref a0)])
    refine Goes.irem S B d_prog_9_method_6_20 hz ?_
    show Goes _ _ _ _ T (mkF me_ 21 #[.val (.ref a0), .val (.int p1), .val (.int p2), .val (.int p3), .val (.int (((((((0 : Int32) <<< ((8 : Int32) &&& 31)) ||| x0) <<< ((8 : Int32) &&& 31)) ||| x1) <<< ((8 : Int32) &&& 31)) ||| x2)), .val (.int (3 : Int32)), .val (.int x2)] [(.int ((((4 : Int32) * p2) + (3 : Int32)) % p1)), (.ref a0)])
    refine Goes.baload S B A_a0 hn3 hl3 d_prog_9_method_6_21 (v := (.int x3)) (congrArg Value.int hf3) ?_
    show Goes _ _ _ _ T (mkF me_ 22 #[.val (.ref a0), .val (.int p1), .val (.int p2), .val (.int p3), .val (.int (((((((0 : Int32) <<< ((8 : Int32) &&& 31)) ||| x0) <<< ((8 : Int32) &&& 31)) ||| x1) <<< ((8 : Int32) &&& 31)) ||| x2)), .val (.int (3 : Int32)), .val (.int x2)] [(.int x3)])
    refine Goes.go (fun _ => XS.istore S.here B.x rfl (B.d d_prog_9_method_6_22) rfl (l' := #[.val (.ref a0), .val (.int p1), .val (.int p2), .val (.int p3), .val (.int (((((((0 : Int32) <<< ((8 : Int32) &&& 31)) ||| x0) <<< ((8 : Int32) &&& 31)) ||| x1) <<< ((8 : Int32) &&& 31)) ||| x2)), .val (.int (3 : Int32)), .val (.int x3)]) rfl) ?_
    show Goes _ _ _ _ T (mkF me_ 24 #[.val (.ref a0), .val (.int p1), .val (.int p2), .val (.int p3), .val (.int (((((((0 : Int32) <<< ((8 : Int32) &&& 31)) ||| x0) <<< ((8 : Int32) &&& 31)) ||| x1) <<< ((8 : Int32) &&& 31)) ||| x2)), .val (.int (3 : Int32)), .val (.int x3)] [])
    refine Goes.go (fun _ => XS.iload S.here B.x rfl (B.d d_prog_9_method_6_24) rfl) ?_
    show Goes _ _ _ _ T (mkF me_ 26 #[.val (.ref a0), .val (.int p1), .val (.int p2), .val (.int p3), .val (.int (((((((0 : Int32) <<< ((8 : Int32) &&& 31)) ||| x0) <<< ((8 : Int32) &&& 31)) ||| x1) <<< ((8 : Int32) &&& 31)) ||| x2)), .val (.int (3 : Int32)), .val (.int x3)] [(.int (((((((0 : Int32) <<< ((8 : Int32) &&& 31)) ||| x0) <<< ((8 : Int32) &&& 31)) ||| x1) <<< ((8 : Int32) &&& 31)) ||| x2))])
    refine Goes.go (fun _ => XS.bipush S.here B.x rfl (B.d d_prog_9_method_6_26)) ?_
    show Goes _ _ _ _ T (mkF me_ 28 #[.val (.ref a0), .val (.int p1), .val (.int p2), .val (.int p3), .val (.int (((((((0 : Int32) <<< ((8 : Int32) &&& 31)) ||| x0) <<< ((8 : Int32) &&& 31)) ||| x1) <<< ((8 : Int32) &&& 31)) ||| x2)), .val (.int (3 : Int32)), .val (.int x3)] [(.int (8 : Int32)), (.int (((((((0 : Int32) <<< ((8 : Int32) &&& 31)) ||| x0) <<< ((8 : Int32) &&& 31)) ||| x1) <<< ((8 : Int32) &&& 31)) ||| x2))])
    refine Goes.go (fun _ => XS.ishl S.here B.x rfl (B.d d_prog_9_method_6_28) rfl) ?_
    show Goes _ _ _ _ T (mkF me_ 29 #[.val (.ref a0), .val (.int p1), .val (.int p2), .val (.int p3), .val (.int (((((((0 : Int32) <<< ((8 : Int32) &&& 31)) ||| x0) <<< ((8 : Int32) &&& 31)) ||| x1) <<< ((8 : Int32) &&& 31)) ||| x2)), .val (.int (3 : Int32)), .val (.int x3)] [(.int ((((((((0 : Int32) <<< ((8 : Int32) &&& 31)) ||| x0) <<< ((8 : Int32) &&& 31)) ||| x1) <<< ((8 : Int32) &&& 31)) ||| x2) <<< ((8 : Int32) &&& 31)))])
    refine Goes.go (fun _ => XS.iloadN S.here B.x rfl (B.d d_prog_9_method_6_29) rfl) ?_
    show Goes _ _ _ _ T (mkF me_ 30 #[.val (.ref a0), .val (.int p1), .val (.int p2), .val (.int p3), .val (.int (((((((0 : Int32) <<< ((8 : Int32) &&& 31)) ||| x0) <<< ((8 : Int32) &&& 31)) ||| x1) <<< ((8 : Int32) &&& 31)) ||| x2)), .val (.int (3 : Int32)), .val (.int x3)] [(.int p3), (.int ((((((((0 : Int32) <<< ((8 : Int32) &&& 31)) ||| x0) <<< ((8 : Int32) &&& 31)) ||| x1) <<< ((8 : Int32) &&& 31)) ||| x2) <<< ((8 : Int32) &&& 31)))])
    refine Goes.go (fun _ => XS.ifNo S.here B.x rfl (B.d d_prog_9_method_6_30) rfl ((if0 _ _).trans (feq (show ¬ (p3 = (0 : Int32)) from hc30)).1)) ?_
    show Goes _ _ _ _ T (mkF me_ 33 #[.val (.ref a0), .val (.int p1), .val (.int p2), .val (.int p3), .val (.int (((((((0 : Int32) <<< ((8 : Int32) &&& 31)) ||| x0) <<< ((8 : Int32) &&& 31)) ||| x1) <<< ((8 : Int32) &&& 31)) ||| x2)), .val (.int (3 : Int32)), .val (.int x3)] [(.int ((((((((0 : Int32) <<< ((8 : Int32) &&& 31)) ||| x0) <<< ((8 : Int32) &&& 31)) ||| x1) <<< ((8 : Int32) &&& 31)) ||| x2) <<< ((8 : Int32) &&& 31)))])
    refine Goes.go (fun _ => XS.iload S.here B.x rfl (B.d d_prog_9_method_6_33) rfl) ?_
    show Goes _ _ _ _ T (mkF me_ 35 #[.val (.ref a0), .val (.int p1), .val (.int p2), .val (.int p3), .val (.int (((((((0 : Int32) <<< ((8 : Int32) &&& 31)) ||| x0) <<< ((8 : Int32) &&& 31)) ||| x1) <<< ((8 : Int32) &&& 31)) ||| x2)), .val (.int (3 : Int32)), .val (.int x3)] [(.int x3), (.int ((((((((0 : Int32) <<< ((8 : Int32) &&& 31)) ||| x0) <<< ((8 : Int32) &&& 31)) ||| x1) <<< ((8 : Int32) &&& 31)) ||| x2) <<< ((8 : Int32) &&& 31)))])
    refine Goes.go (fun _ => XS.goto S.here B.x rfl (pc0 := 35) (pc' := 44) rfl (B.d d_prog_9_method_6_35) (by decide) (by decide)) ?_
    show Goes _ _ _ _ T (mkF me_ 44 #[.val (.ref a0), .val (.int p1), .val (.int p2), .val (.int p3), .val (.int (((((((0 : Int32) <<< ((8 : Int32) &&& 31)) ||| x0) <<< ((8 : Int32) &&& 31)) ||| x1) <<< ((8 : Int32) &&& 31)) ||| x2)), .val (.int (3 : Int32)), .val (.int x3)] [(.int x3), (.int ((((((((0 : Int32) <<< ((8 : Int32) &&& 31)) ||| x0) <<< ((8 : Int32) &&& 31)) ||| x1) <<< ((8 : Int32) &&& 31)) ||| x2) <<< ((8 : Int32) &&& 31)))])
    refine Goes.go (fun _ => XS.ior S.here B.x rfl (B.d d_prog_9_method_6_44) rfl) ?_
    show Goes _ _ _ _ T (mkF me_ 45 #[.val (.ref a0), .val (.int p1), .val (.int p2), .val (.int p3), .val (.int (((((((0 : Int32) <<< ((8 : Int32) &&& 31)) ||| x0) <<< ((8 : Int32) &&& 31)) ||| x1) <<< ((8 : Int32) &&& 31)) ||| x2)), .val (.int (3 : Int32)), .val (.int x3)] [(.int (((((((((0 : Int32) <<< ((8 : Int32) &&& 31)) ||| x0) <<< ((8 : Int32) &&& 31)) ||| x1) <<< ((8 : Int32) &&& 31)) ||| x2) <<< ((8 : Int32) &&& 31)) ||| x3))])
    refine Goes.go (fun _ => XS.istore S.here B.x rfl (B.d d_prog_9_method_6_45) rfl (l' := #[.val (.ref a0), .val (.int p1), .val (.int p2), .val (.int p3), .val (.int (((((((((0 : Int32) <<< ((8 : Int32) &&& 31)) ||| x0) <<< ((8 : Int32) &&& 31)) ||| x1) <<< ((8 : Int32) &&& 31)) ||| x2) <<< ((8 : Int32) &&& 31)) ||| x3)), .val (.int (3 : Int32)), .val (.int x3)]) rfl) ?_
    show Goes _ _ _ _ T (mkF me_ 47 #[.val (.ref a0), .val (.int p1), .val (.int p2), .val (.int p3), .val (.int (((((((((0 : Int32) <<< ((8 : Int32) &&& 31)) ||| x0) <<< ((8 : Int32) &&& 31)) ||| x1) <<< ((8 : Int32) &&& 31)) ||| x2) <<< ((8 : Int32) &&& 31)) ||| x3)), .val (.int (3 : Int32)), .val (.int x3)] [])
    refine Goes.go (fun _ => XS.iinc S.here B.x rfl (B.d d_prog_9_method_6_47) rfl (l' := #[.val (.ref a0), .val (.int p1), .val (.int p2), .val (.int p3), .val (.int (((((((((0 : Int32) <<< ((8 : Int32) &&& 31)) ||| x0) <<< ((8 : Int32) &&& 31)) ||| x1) <<< ((8 : Int32) &&& 31)) ||| x2) <<< ((8 : Int32) &&& 31)) ||| x3)), .val (.int (4 : Int32)), .val (.int x3)]) rfl) ?_
    show Goes _ _ _ _ T (mkF me_ 50 #[.val (.ref a0), .val (.int p1), .val (.int p2), .val (.int p3), .val (.int (((((((((0 : Int32) <<< ((8 : Int32) &&& 31)) ||| x0) <<< ((8 : Int32) &&& 31)) ||| x1) <<< ((8 : Int32) &&& 31)) ||| x2) <<< ((8 : Int32) &&& 31)) ||| x3)), .val (.int (4 : Int32)), .val (.int x3)] [])
    refine Goes.go (fun _ => XS.goto S.here B.x rfl (pc0 := 50) (pc' := 6) rfl (B.d d_prog_9_method_6_50) (by decide) (by decide)) ?_
    show Goes _ _ _ _ T (mkF me_ 6 #[.val (.ref a0), .val (.int p1), .val (.int p2), .val (.int p3), .val (.int (((((((((0 : Int32) <<< ((8 : Int32) &&& 31)) ||| x0) <<< ((8 : Int32) &&& 31)) ||| x1) <<< ((8 : Int32) &&& 31)) ||| x2) <<< ((8 : Int32) &&& 31)) ||| x3)), .val (.int (4 : Int32)), .val (.int x3)] [])
    refine Goes.go (fun _ => XS.iload S.here B.x rfl (B.d d_prog_9_method_6_6) rfl) ?_
    show Goes _ _ _ _ T (mkF me_ 8 #[.val (.ref a0), .val (.int p1), .val (.int p2), .val (.int p3), .val (.int (((((((((0 : Int32) <<< ((8 : Int32) &&& 31)) ||| x0) <<< ((8 : Int32) &&& 31)) ||| x1) <<< ((8 : Int32) &&& 31)) ||| x2) <<< ((8 : Int32) &&& 31)) ||| x3)), .val (.int (4 : Int32)), .val (.int x3)] [(.int (4 : Int32))])
    refine Goes.go (fun _ => XS.iconst S.here B.x rfl (B.d d_prog_9_method_6_8)) ?_
    show Goes _ _ _ _ T (mkF me_ 9 #[.val (.ref a0), .val (.int p1), .val (.int p2), .val (.int p3), .val (.int (((((((((0 : Int32) <<< ((8 : Int32) &&& 31)) ||| x0) <<< ((8 : Int32) &&& 31)) ||| x1) <<< ((8 : Int32) &&& 31)) ||| x2) <<< ((8 : Int32) &&& 31)) ||| x3)), .val (.int (4 : Int32)), .val (.int x3)] [(.int (4 : Int32)), (.int (4 : Int32))])
    refine Goes.go (fun _ => XS.icmpYes S.here B.x rfl (pc0 := 9) (pc' := 53) rfl (B.d d_prog_9_method_6_9) rfl (by decide) (by decide) (by decide)) ?_
    show Goes _ _ _ _ T (mkF me_ 53 #[.val (.ref a0), .val (.int p1), .val (.int p2), .val (.int p3), .val (.int (((((((((0 : Int32) <<< ((8 : Int32) &&& 31)) ||| x0) <<< ((8 : Int32) &&& 31)) ||| x1) <<< ((8 : Int32) &&& 31)) ||| x2) <<< ((8 : Int32) &&& 31)) ||| x3)), .val (.int (4 : Int32)), .val (.int x3)] [])
    refine Goes.go (fun _ => XS.iload S.here B.x rfl (B.d d_prog_9_method_6_53) rfl) ?_
    show Goes _ _ _ _ T (mkF me_ 55 #[.val (.ref a0), .val (.int p1), .val (.int p2), .val (.int p3), .val (.int (((((((((0 : Int32) <<< ((8 : Int32) &&& 31)) ||| x0) <<< ((8 : Int32) &&& 31)) ||| x1) <<< ((8 : Int32) &&& 31)) ||| x2) <<< ((8 : Int32) &&& 31)) ||| x3)), .val (.int (4 : Int32)), .val (.int x3)] [(.int (((((((((0 : Int32) <<< ((8 : Int32) &&& 31)) ||| x0) <<< ((8 : Int32) &&& 31)) ||| x1) <<< ((8 : Int32) &&& 31)) ||| x2) <<< ((8 : Int32) &&& 31)) ||| x3))])
    refine Goes.retI S B d_prog_9_method_6_55 (by decide) (by decide) ?_
    exact ⟨(by simp [own_cw, hc30]), rfl⟩
theorem ef_rm_ex (m : MethodId) (a0 : Addr) (p1 : Int32) (p2 : Int32) (p3 : Int32) : entryFrame m #[(.ref a0), (.int p1), (.int p2), (.int p3)] 10 = mkF m 0 #[.val (.ref a0), .val (.int p1), .val (.int p2), .val (.int p3), .unset, .unset, .unset, .unset, .unset, .unset] [] := by first | (simp [entryFrame, mkF, argsToLocals, Value.category]; done) | rfl
def Q_rm_ex (Z : State) (a0 : Addr) (p1 : Int32) (p2 : Int32) (p3 : Int32) (f : Nat → Int32) (x0 : Int32) (x1 : Int32) (x2 : Int32) (x3 : Int32) (h0 : Heap) (n0 : Nat) (v : Option Value) (h : Heap) : Prop := v = some (.int (own_ex p3 x0 x1 x2 x3)) ∧ h = h0
set_option maxRecDepth 65536 in
set_option maxHeartbeats 40000000 in
theorem rm_ex (l : Launch) (Z : State) (aw : Array Value) (hw : ∀ d ∈ tables_1, d.before aw Z = true) (a0 : Addr) (p1 : Int32) (p2 : Int32) (p3 : Int32) (f : Nat → Int32) (x0 : Int32) (x1 : Int32) (x2 : Int32) (x3 : Int32) (h0 : Heap) (n0 : Nat) (A_a0 : Ary Z h0 a0 .byte 8 (fun i => (.int (f i)))) (hz : p1 ≠ 0) (hn0 : ¬ (((4 : Int32) * p2) % p1) < 0) (hl0 : (((4 : Int32) * p2) % p1).toNatClampNeg < 8) (hf0 : f (((4 : Int32) * p2) % p1).toNatClampNeg = x0) (hn1 : ¬ ((((4 : Int32) * p2) + (1 : Int32)) % p1) < 0) (hl1 : ((((4 : Int32) * p2) + (1 : Int32)) % p1).toNatClampNeg < 8) (hf1 : f ((((4 : Int32) * p2) + (1 : Int32)) % p1).toNatClampNeg = x1) (hn2 : ¬ ((((4 : Int32) * p2) + (2 : Int32)) % p1) < 0) (hl2 : ((((4 : Int32) * p2) + (2 : Int32)) % p1).toNatClampNeg < 8) (hf2 : f ((((4 : Int32) * p2) + (2 : Int32)) % p1).toNatClampNeg = x2) (hn3 : ¬ ((((4 : Int32) * p2) + (3 : Int32)) % p1) < 0) (hl3 : ((((4 : Int32) * p2) + (3 : Int32)) % p1).toNatClampNeg < 8) (hf3 : f ((((4 : Int32) * p2) + (3 : Int32)) % p1).toNatClampNeg = x3) :
    Con l Z (⟨"com/example/orphean/orphean/BlowfishCyclicWordsPinLaw", "expected", "([BIIZ)I"⟩ : MethodName) method_2_code 10 (some .int) ({ frames := 0, cells := 0, slots := 0, locals := 0 } : Room) #[(.ref a0), (.int p1), (.int p2), (.int p3)] h0 n0 (Q_rm_ex Z a0 p1 p2 p3 f x0 x1 x2 x3 h0 n0) := by
  refine Con.body (plainFor_of_name pn_1) ?_
  intro pr_ en_ st_ me_ below meth co_ T B S
  refine Goes.cast (ef_rm_ex me_ a0 p1 p2 p3) ?_
  refine Goes.go (fun _ => XS.aloadN S.here B.x rfl (B.d d_method_2_0) rfl rfl) ?_
  show Goes _ _ _ _ T (mkF me_ 1 #[.val (.ref a0), .val (.int p1), .val (.int p2), .val (.int p3), .unset, .unset, .unset, .unset, .unset, .unset] [(.ref a0)])
  refine Goes.go (fun _ => XS.iconst S.here B.x rfl (B.d d_method_2_1)) ?_
  show Goes _ _ _ _ T (mkF me_ 2 #[.val (.ref a0), .val (.int p1), .val (.int p2), .val (.int p3), .unset, .unset, .unset, .unset, .unset, .unset] [(.int (4 : Int32)), (.ref a0)])
  refine Goes.go (fun _ => XS.iloadN S.here B.x rfl (B.d d_method_2_2) rfl) ?_
  show Goes _ _ _ _ T (mkF me_ 3 #[.val (.ref a0), .val (.int p1), .val (.int p2), .val (.int p3), .unset, .unset, .unset, .unset, .unset, .unset] [(.int p2), (.int (4 : Int32)), (.ref a0)])
  refine Goes.go (fun _ => XS.imul S.here B.x rfl (B.d d_method_2_3) rfl) ?_
  show Goes _ _ _ _ T (mkF me_ 4 #[.val (.ref a0), .val (.int p1), .val (.int p2), .val (.int p3), .unset, .unset, .unset, .unset, .unset, .unset] [(.int ((4 : Int32) * p2)), (.ref a0)])
  refine Goes.go (fun _ => XS.iloadN S.here B.x rfl (B.d d_method_2_4) rfl) ?_
  show Goes _ _ _ _ T (mkF me_ 5 #[.val (.ref a0), .val (.int p1), .val (.int p2), .val (.int p3), .unset, .unset, .unset, .unset, .unset, .unset] [(.int p1), (.int ((4 : Int32) * p2)), (.ref a0)])
  refine Goes.irem S B d_method_2_5 hz ?_
  show Goes _ _ _ _ T (mkF me_ 6 #[.val (.ref a0), .val (.int p1), .val (.int p2), .val (.int p3), .unset, .unset, .unset, .unset, .unset, .unset] [(.int (((4 : Int32) * p2) % p1)), (.ref a0)])
  refine Goes.baload S B A_a0 hn0 hl0 d_method_2_6 (v := (.int x0)) (congrArg Value.int hf0) ?_
  show Goes _ _ _ _ T (mkF me_ 7 #[.val (.ref a0), .val (.int p1), .val (.int p2), .val (.int p3), .unset, .unset, .unset, .unset, .unset, .unset] [(.int x0)])
  refine Goes.go (fun _ => XS.istore S.here B.x rfl (B.d d_method_2_7) rfl (l' := #[.val (.ref a0), .val (.int p1), .val (.int p2), .val (.int p3), .val (.int x0), .unset, .unset, .unset, .unset, .unset]) rfl) ?_
  show Goes _ _ _ _ T (mkF me_ 9 #[.val (.ref a0), .val (.int p1), .val (.int p2), .val (.int p3), .val (.int x0), .unset, .unset, .unset, .unset, .unset] [])
  refine Goes.go (fun _ => XS.aloadN S.here B.x rfl (B.d d_method_2_9) rfl rfl) ?_
  show Goes _ _ _ _ T (mkF me_ 10 #[.val (.ref a0), .val (.int p1), .val (.int p2), .val (.int p3), .val (.int x0), .unset, .unset, .unset, .unset, .unset] [(.ref a0)])
  refine Goes.go (fun _ => XS.iconst S.here B.x rfl (B.d d_method_2_10)) ?_
  show Goes _ _ _ _ T (mkF me_ 11 #[.val (.ref a0), .val (.int p1), .val (.int p2), .val (.int p3), .val (.int x0), .unset, .unset, .unset, .unset, .unset] [(.int (4 : Int32)), (.ref a0)])
  refine Goes.go (fun _ => XS.iloadN S.here B.x rfl (B.d d_method_2_11) rfl) ?_
  show Goes _ _ _ _ T (mkF me_ 12 #[.val (.ref a0), .val (.int p1), .val (.int p2), .val (.int p3), .val (.int x0), .unset, .unset, .unset, .unset, .unset] [(.int p2), (.int (4 : Int32)), (.ref a0)])
  refine Goes.go (fun _ => XS.imul S.here B.x rfl (B.d d_method_2_12) rfl) ?_
  show Goes _ _ _ _ T (mkF me_ 13 #[.val (.ref a0), .val (.int p1), .val (.int p2), .val (.int p3), .val (.int x0), .unset, .unset, .unset, .unset, .unset] [(.int ((4 : Int32) * p2)), (.ref a0)])
  refine Goes.go (fun _ => XS.iconst S.here B.x rfl (B.d d_method_2_13)) ?_
  show Goes _ _ _ _ T (mkF me_ 14 #[.val (.ref a0), .val (.int p1), .val (.int p2), .val (.int p3), .val (.int x0), .unset, .unset, .unset, .unset, .unset] [(.int (1 : Int32)), (.int ((4 : Int32) * p2)), (.ref a0)])
  refine Goes.go (fun _ => XS.iadd S.here B.x rfl (B.d d_method_2_14) rfl) ?_
  show Goes _ _ _ _ T (mkF me_ 15 #[.val (.ref a0), .val (.int p1), .val (.int p2), .val (.int p3), .val (.int x0), .unset, .unset, .unset, .unset, .unset] [(.int (((4 : Int32) * p2) + (1 : Int32))), (.ref a0)])
  refine Goes.go (fun _ => XS.iloadN S.here B.x rfl (B.d d_method_2_15) rfl) ?_
  show Goes _ _ _ _ T (mkF me_ 16 #[.val (.ref a0), .val (.int p1), .val (.int p2), .val (.int p3), .val (.int x0), .unset, .unset, .unset, .unset, .unset] [(.int p1), (.int (((4 : Int32) * p2) + (1 : Int32))), (.ref a0)])
  refine Goes.irem S B d_method_2_16 hz ?_
  show Goes _ _ _ _ T (mkF me_ 17 #[.val (.ref a0), .val (.int p1), .val (.int p2), .val (.int p3), .val (.int x0), .unset, .unset, .unset, .unset, .unset] [(.int ((((4 : Int32) * p2) + (1 : Int32)) % p1)), (.ref a0)])
  refine Goes.baload S B A_a0 hn1 hl1 d_method_2_17 (v := (.int x1)) (congrArg Value.int hf1) ?_
  show Goes _ _ _ _ T (mkF me_ 18 #[.val (.ref a0), .val (.int p1), .val (.int p2), .val (.int p3), .val (.int x0), .unset, .unset, .unset, .unset, .unset] [(.int x1)])
  refine Goes.go (fun _ => XS.istore S.here B.x rfl (B.d d_method_2_18) rfl (l' := #[.val (.ref a0), .val (.int p1), .val (.int p2), .val (.int p3), .val (.int x0), .val (.int x1), .unset, .unset, .unset, .unset]) rfl) ?_
  show Goes _ _ _ _ T (mkF me_ 20 #[.val (.ref a0), .val (.int p1), .val (.int p2), .val (.int p3), .val (.int x0), .val (.int x1), .unset, .unset, .unset, .unset] [])
  refine Goes.go (fun _ => XS.aloadN S.here B.x rfl (B.d d_method_2_20) rfl rfl) ?_
  show Goes _ _ _ _ T (mkF me_ 21 #[.val (.ref a0), .val (.int p1), .val (.int p2), .val (.int p3), .val (.int x0), .val (.int x1), .unset, .unset, .unset, .unset] [(.ref a0)])
  refine Goes.go (fun _ => XS.iconst S.here B.x rfl (B.d d_method_2_21)) ?_
  show Goes _ _ _ _ T (mkF me_ 22 #[.val (.ref a0), .val (.int p1), .val (.int p2), .val (.int p3), .val (.int x0), .val (.int x1), .unset, .unset, .unset, .unset] [(.int (4 : Int32)), (.ref a0)])
  refine Goes.go (fun _ => XS.iloadN S.here B.x rfl (B.d d_method_2_22) rfl) ?_
  show Goes _ _ _ _ T (mkF me_ 23 #[.val (.ref a0), .val (.int p1), .val (.int p2), .val (.int p3), .val (.int x0), .val (.int x1), .unset, .unset, .unset, .unset] [(.int p2), (.int (4 : Int32)), (.ref a0)])
  refine Goes.go (fun _ => XS.imul S.here B.x rfl (B.d d_method_2_23) rfl) ?_
  show Goes _ _ _ _ T (mkF me_ 24 #[.val (.ref a0), .val (.int p1), .val (.int p2), .val (.int p3), .val (.int x0), .val (.int x1), .unset, .unset, .unset, .unset] [(.int ((4 : Int32) * p2)), (.ref a0)])
  refine Goes.go (fun _ => XS.iconst S.here B.x rfl (B.d d_method_2_24)) ?_
  show Goes _ _ _ _ T (mkF me_ 25 #[.val (.ref a0), .val (.int p1), .val (.int p2), .val (.int p3), .val (.int x0), .val (.int x1), .unset, .unset, .unset, .unset] [(.int (2 : Int32)), (.int ((4 : Int32) * p2)), (.ref a0)])
  refine Goes.go (fun _ => XS.iadd S.here B.x rfl (B.d d_method_2_25) rfl) ?_
  show Goes _ _ _ _ T (mkF me_ 26 #[.val (.ref a0), .val (.int p1), .val (.int p2), .val (.int p3), .val (.int x0), .val (.int x1), .unset, .unset, .unset, .unset] [(.int (((4 : Int32) * p2) + (2 : Int32))), (.ref a0)])
  refine Goes.go (fun _ => XS.iloadN S.here B.x rfl (B.d d_method_2_26) rfl) ?_
  show Goes _ _ _ _ T (mkF me_ 27 #[.val (.ref a0), .val (.int p1), .val (.int p2), .val (.int p3), .val (.int x0), .val (.int x1), .unset, .unset, .unset, .unset] [(.int p1), (.int (((4 : Int32) * p2) + (2 : Int32))), (.ref a0)])
  refine Goes.irem S B d_method_2_27 hz ?_
  show Goes _ _ _ _ T (mkF me_ 28 #[.val (.ref a0), .val (.int p1), .val (.int p2), .val (.int p3), .val (.int x0), .val (.int x1), .unset, .unset, .unset, .unset] [(.int ((((4 : Int32) * p2) + (2 : Int32)) % p1)), (.ref a0)])
  refine Goes.baload S B A_a0 hn2 hl2 d_method_2_28 (v := (.int x2)) (congrArg Value.int hf2) ?_
  show Goes _ _ _ _ T (mkF me_ 29 #[.val (.ref a0), .val (.int p1), .val (.int p2), .val (.int p3), .val (.int x0), .val (.int x1), .unset, .unset, .unset, .unset] [(.int x2)])
  refine Goes.go (fun _ => XS.istore S.here B.x rfl (B.d d_method_2_29) rfl (l' := #[.val (.ref a0), .val (.int p1), .val (.int p2), .val (.int p3), .val (.int x0), .val (.int x1), .val (.int x2), .unset, .unset, .unset]) rfl) ?_
  show Goes _ _ _ _ T (mkF me_ 31 #[.val (.ref a0), .val (.int p1), .val (.int p2), .val (.int p3), .val (.int x0), .val (.int x1), .val (.int x2), .unset, .unset, .unset] [])
  refine Goes.go (fun _ => XS.aloadN S.here B.x rfl (B.d d_method_2_31) rfl rfl) ?_
  show Goes _ _ _ _ T (mkF me_ 32 #[.val (.ref a0), .val (.int p1), .val (.int p2), .val (.int p3), .val (.int x0), .val (.int x1), .val (.int x2), .unset, .unset, .unset] [(.ref a0)])
  refine Goes.go (fun _ => XS.iconst S.here B.x rfl (B.d d_method_2_32)) ?_
  show Goes _ _ _ _ T (mkF me_ 33 #[.val (.ref a0), .val (.int p1), .val (.int p2), .val (.int p3), .val (.int x0), .val (.int x1), .val (.int x2), .unset, .unset, .unset] [(.int (4 : Int32)), (.ref a0)])
  refine Goes.go (fun _ => XS.iloadN S.here B.x rfl (B.d d_method_2_33) rfl) ?_
  show Goes _ _ _ _ T (mkF me_ 34 #[.val (.ref a0), .val (.int p1), .val (.int p2), .val (.int p3), .val (.int x0), .val (.int x1), .val (.int x2), .unset, .unset, .unset] [(.int p2), (.int (4 : Int32)), (.ref a0)])
  refine Goes.go (fun _ => XS.imul S.here B.x rfl (B.d d_method_2_34) rfl) ?_
  show Goes _ _ _ _ T (mkF me_ 35 #[.val (.ref a0), .val (.int p1), .val (.int p2), .val (.int p3), .val (.int x0), .val (.int x1), .val (.int x2), .unset, .unset, .unset] [(.int ((4 : Int32) * p2)), (.ref a0)])
  refine Goes.go (fun _ => XS.iconst S.here B.x rfl (B.d d_method_2_35)) ?_
  show Goes _ _ _ _ T (mkF me_ 36 #[.val (.ref a0), .val (.int p1), .val (.int p2), .val (.int p3), .val (.int x0), .val (.int x1), .val (.int x2), .unset, .unset, .unset] [(.int (3 : Int32)), (.int ((4 : Int32) * p2)), (.ref a0)])
  refine Goes.go (fun _ => XS.iadd S.here B.x rfl (B.d d_method_2_36) rfl) ?_
  show Goes _ _ _ _ T (mkF me_ 37 #[.val (.ref a0), .val (.int p1), .val (.int p2), .val (.int p3), .val (.int x0), .val (.int x1), .val (.int x2), .unset, .unset, .unset] [(.int (((4 : Int32) * p2) + (3 : Int32))), (.ref a0)])
  refine Goes.go (fun _ => XS.iloadN S.here B.x rfl (B.d d_method_2_37) rfl) ?_
  show Goes _ _ _ _ T (mkF me_ 38 #[.val (.ref a0), .val (.int p1), .val (.int p2), .val (.int p3), .val (.int x0), .val (.int x1), .val (.int x2), .unset, .unset, .unset] [(.int p1), (.int (((4 : Int32) * p2) + (3 : Int32))), (.ref a0)])
  refine Goes.irem S B d_method_2_38 hz ?_
  show Goes _ _ _ _ T (mkF me_ 39 #[.val (.ref a0), .val (.int p1), .val (.int p2), .val (.int p3), .val (.int x0), .val (.int x1), .val (.int x2), .unset, .unset, .unset] [(.int ((((4 : Int32) * p2) + (3 : Int32)) % p1)), (.ref a0)])
  refine Goes.baload S B A_a0 hn3 hl3 d_method_2_39 (v := (.int x3)) (congrArg Value.int hf3) ?_
  show Goes _ _ _ _ T (mkF me_ 40 #[.val (.ref a0), .val (.int p1), .val (.int p2), .val (.int p3), .val (.int x0), .val (.int x1), .val (.int x2), .unset, .unset, .unset] [(.int x3)])
  refine Goes.go (fun _ => XS.istore S.here B.x rfl (B.d d_method_2_40) rfl (l' := #[.val (.ref a0), .val (.int p1), .val (.int p2), .val (.int p3), .val (.int x0), .val (.int x1), .val (.int x2), .val (.int x3), .unset, .unset]) rfl) ?_
  show Goes _ _ _ _ T (mkF me_ 42 #[.val (.ref a0), .val (.int p1), .val (.int p2), .val (.int p3), .val (.int x0), .val (.int x1), .val (.int x2), .val (.int x3), .unset, .unset] [])
  refine Goes.go (fun _ => XS.iload S.here B.x rfl (B.d d_method_2_42) rfl) ?_
  show Goes _ _ _ _ T (mkF me_ 44 #[.val (.ref a0), .val (.int p1), .val (.int p2), .val (.int p3), .val (.int x0), .val (.int x1), .val (.int x2), .val (.int x3), .unset, .unset] [(.int x0)])
  refine Goes.go (fun _ => XS.sipush S.here B.x rfl (B.d d_method_2_44)) ?_
  show Goes _ _ _ _ T (mkF me_ 47 #[.val (.ref a0), .val (.int p1), .val (.int p2), .val (.int p3), .val (.int x0), .val (.int x1), .val (.int x2), .val (.int x3), .unset, .unset] [(.int (255 : Int32)), (.int x0)])
  refine Goes.go (fun _ => XS.iand S.here B.x rfl (B.d d_method_2_47) rfl) ?_
  show Goes _ _ _ _ T (mkF me_ 48 #[.val (.ref a0), .val (.int p1), .val (.int p2), .val (.int p3), .val (.int x0), .val (.int x1), .val (.int x2), .val (.int x3), .unset, .unset] [(.int (x0 &&& (255 : Int32)))])
  refine Goes.go (fun _ => XS.bipush S.here B.x rfl (B.d d_method_2_48)) ?_
  show Goes _ _ _ _ T (mkF me_ 50 #[.val (.ref a0), .val (.int p1), .val (.int p2), .val (.int p3), .val (.int x0), .val (.int x1), .val (.int x2), .val (.int x3), .unset, .unset] [(.int (24 : Int32)), (.int (x0 &&& (255 : Int32)))])
  refine Goes.go (fun _ => XS.ishl S.here B.x rfl (B.d d_method_2_50) rfl) ?_
  show Goes _ _ _ _ T (mkF me_ 51 #[.val (.ref a0), .val (.int p1), .val (.int p2), .val (.int p3), .val (.int x0), .val (.int x1), .val (.int x2), .val (.int x3), .unset, .unset] [(.int ((x0 &&& (255 : Int32)) <<< ((24 : Int32) &&& 31)))])
  refine Goes.go (fun _ => XS.iload S.here B.x rfl (B.d d_method_2_51) rfl) ?_
  show Goes _ _ _ _ T (mkF me_ 53 #[.val (.ref a0), .val (.int p1), .val (.int p2), .val (.int p3), .val (.int x0), .val (.int x1), .val (.int x2), .val (.int x3), .unset, .unset] [(.int x1), (.int ((x0 &&& (255 : Int32)) <<< ((24 : Int32) &&& 31)))])
  refine Goes.go (fun _ => XS.sipush S.here B.x rfl (B.d d_method_2_53)) ?_
  show Goes _ _ _ _ T (mkF me_ 56 #[.val (.ref a0), .val (.int p1), .val (.int p2), .val (.int p3), .val (.int x0), .val (.int x1), .val (.int x2), .val (.int x3), .unset, .unset] [(.int (255 : Int32)), (.int x1), (.int ((x0 &&& (255 : Int32)) <<< ((24 : Int32) &&& 31)))])
  refine Goes.go (fun _ => XS.iand S.here B.x rfl (B.d d_method_2_56) rfl) ?_
  show Goes _ _ _ _ T (mkF me_ 57 #[.val (.ref a0), .val (.int p1), .val (.int p2), .val (.int p3), .val (.int x0), .val (.int x1), .val (.int x2), .val (.int x3), .unset, .unset] [(.int (x1 &&& (255 : Int32))), (.int ((x0 &&& (255 : Int32)) <<< ((24 : Int32) &&& 31)))])
  refine Goes.go (fun _ => XS.bipush S.here B.x rfl (B.d d_method_2_57)) ?_
  show Goes _ _ _ _ T (mkF me_ 59 #[.val (.ref a0), .val (.int p1), .val (.int p2), .val (.int p3), .val (.int x0), .val (.int x1), .val (.int x2), .val (.int x3), .unset, .unset] [(.int (16 : Int32)), (.int (x1 &&& (255 : Int32))), (.int ((x0 &&& (255 : Int32)) <<< ((24 : Int32) &&& 31)))])
  refine Goes.go (fun _ => XS.ishl S.here B.x rfl (B.d d_method_2_59) rfl) ?_
  show Goes _ _ _ _ T (mkF me_ 60 #[.val (.ref a0), .val (.int p1), .val (.int p2), .val (.int p3), .val (.int x0), .val (.int x1), .val (.int x2), .val (.int x3), .unset, .unset] [(.int ((x1 &&& (255 : Int32)) <<< ((16 : Int32) &&& 31))), (.int ((x0 &&& (255 : Int32)) <<< ((24 : Int32) &&& 31)))])
  refine Goes.go (fun _ => XS.ior S.here B.x rfl (B.d d_method_2_60) rfl) ?_
  show Goes _ _ _ _ T (mkF me_ 61 #[.val (.ref a0), .val (.int p1), .val (.int p2), .val (.int p3), .val (.int x0), .val (.int x1), .val (.int x2), .val (.int x3), .unset, .unset] [(.int (((x0 &&& (255 : Int32)) <<< ((24 : Int32) &&& 31)) ||| ((x1 &&& (255 : Int32)) <<< ((16 : Int32) &&& 31))))])
  refine Goes.go (fun _ => XS.iload S.here B.x rfl (B.d d_method_2_61) rfl) ?_
  show Goes _ _ _ _ T (mkF me_ 63 #[.val (.ref a0), .val (.int p1), .val (.int p2), .val (.int p3), .val (.int x0), .val (.int x1), .val (.int x2), .val (.int x3), .unset, .unset] [(.int x2), (.int (((x0 &&& (255 : Int32)) <<< ((24 : Int32) &&& 31)) ||| ((x1 &&& (255 : Int32)) <<< ((16 : Int32) &&& 31))))])
  refine Goes.go (fun _ => XS.sipush S.here B.x rfl (B.d d_method_2_63)) ?_
  show Goes _ _ _ _ T (mkF me_ 66 #[.val (.ref a0), .val (.int p1), .val (.int p2), .val (.int p3), .val (.int x0), .val (.int x1), .val (.int x2), .val (.int x3), .unset, .unset] [(.int (255 : Int32)), (.int x2), (.int (((x0 &&& (255 : Int32)) <<< ((24 : Int32) &&& 31)) ||| ((x1 &&& (255 : Int32)) <<< ((16 : Int32) &&& 31))))])
  refine Goes.go (fun _ => XS.iand S.here B.x rfl (B.d d_method_2_66) rfl) ?_
  show Goes _ _ _ _ T (mkF me_ 67 #[.val (.ref a0), .val (.int p1), .val (.int p2), .val (.int p3), .val (.int x0), .val (.int x1), .val (.int x2), .val (.int x3), .unset, .unset] [(.int (x2 &&& (255 : Int32))), (.int (((x0 &&& (255 : Int32)) <<< ((24 : Int32) &&& 31)) ||| ((x1 &&& (255 : Int32)) <<< ((16 : Int32) &&& 31))))])
  refine Goes.go (fun _ => XS.bipush S.here B.x rfl (B.d d_method_2_67)) ?_
  show Goes _ _ _ _ T (mkF me_ 69 #[.val (.ref a0), .val (.int p1), .val (.int p2), .val (.int p3), .val (.int x0), .val (.int x1), .val (.int x2), .val (.int x3), .unset, .unset] [(.int (8 : Int32)), (.int (x2 &&& (255 : Int32))), (.int (((x0 &&& (255 : Int32)) <<< ((24 : Int32) &&& 31)) ||| ((x1 &&& (255 : Int32)) <<< ((16 : Int32) &&& 31))))])
  refine Goes.go (fun _ => XS.ishl S.here B.x rfl (B.d d_method_2_69) rfl) ?_
  show Goes _ _ _ _ T (mkF me_ 70 #[.val (.ref a0), .val (.int p1), .val (.int p2), .val (.int p3), .val (.int x0), .val (.int x1), .val (.int x2), .val (.int x3), .unset, .unset] [(.int ((x2 &&& (255 : Int32)) <<< ((8 : Int32) &&& 31))), (.int (((x0 &&& (255 : Int32)) <<< ((24 : Int32) &&& 31)) ||| ((x1 &&& (255 : Int32)) <<< ((16 : Int32) &&& 31))))])
  refine Goes.go (fun _ => XS.ior S.here B.x rfl (B.d d_method_2_70) rfl) ?_
  show Goes _ _ _ _ T (mkF me_ 71 #[.val (.ref a0), .val (.int p1), .val (.int p2), .val (.int p3), .val (.int x0), .val (.int x1), .val (.int x2), .val (.int x3), .unset, .unset] [(.int ((((x0 &&& (255 : Int32)) <<< ((24 : Int32) &&& 31)) ||| ((x1 &&& (255 : Int32)) <<< ((16 : Int32) &&& 31))) ||| ((x2 &&& (255 : Int32)) <<< ((8 : Int32) &&& 31))))])
  refine Goes.go (fun _ => XS.iload S.here B.x rfl (B.d d_method_2_71) rfl) ?_
  show Goes _ _ _ _ T (mkF me_ 73 #[.val (.ref a0), .val (.int p1), .val (.int p2), .val (.int p3), .val (.int x0), .val (.int x1), .val (.int x2), .val (.int x3), .unset, .unset] [(.int x3), (.int ((((x0 &&& (255 : Int32)) <<< ((24 : Int32) &&& 31)) ||| ((x1 &&& (255 : Int32)) <<< ((16 : Int32) &&& 31))) ||| ((x2 &&& (255 : Int32)) <<< ((8 : Int32) &&& 31))))])
  refine Goes.go (fun _ => XS.sipush S.here B.x rfl (B.d d_method_2_73)) ?_
  show Goes _ _ _ _ T (mkF me_ 76 #[.val (.ref a0), .val (.int p1), .val (.int p2), .val (.int p3), .val (.int x0), .val (.int x1), .val (.int x2), .val (.int x3), .unset, .unset] [(.int (255 : Int32)), (.int x3), (.int ((((x0 &&& (255 : Int32)) <<< ((24 : Int32) &&& 31)) ||| ((x1 &&& (255 : Int32)) <<< ((16 : Int32) &&& 31))) ||| ((x2 &&& (255 : Int32)) <<< ((8 : Int32) &&& 31))))])
  refine Goes.go (fun _ => XS.iand S.here B.x rfl (B.d d_method_2_76) rfl) ?_
  show Goes _ _ _ _ T (mkF me_ 77 #[.val (.ref a0), .val (.int p1), .val (.int p2), .val (.int p3), .val (.int x0), .val (.int x1), .val (.int x2), .val (.int x3), .unset, .unset] [(.int (x3 &&& (255 : Int32))), (.int ((((x0 &&& (255 : Int32)) <<< ((24 : Int32) &&& 31)) ||| ((x1 &&& (255 : Int32)) <<< ((16 : Int32) &&& 31))) ||| ((x2 &&& (255 : Int32)) <<< ((8 : Int32) &&& 31))))])
  refine Goes.go (fun _ => XS.ior S.here B.x rfl (B.d d_method_2_77) rfl) ?_
  show Goes _ _ _ _ T (mkF me_ 78 #[.val (.ref a0), .val (.int p1), .val (.int p2), .val (.int p3), .val (.int x0), .val (.int x1), .val (.int x2), .val (.int x3), .unset, .unset] [(.int (((((x0 &&& (255 : Int32)) <<< ((24 : Int32) &&& 31)) ||| ((x1 &&& (255 : Int32)) <<< ((16 : Int32) &&& 31))) ||| ((x2 &&& (255 : Int32)) <<< ((8 : Int32) &&& 31))) ||| (x3 &&& (255 : Int32))))])
  refine Goes.go (fun _ => XS.istore S.here B.x rfl (B.d d_method_2_78) rfl (l' := #[.val (.ref a0), .val (.int p1), .val (.int p2), .val (.int p3), .val (.int x0), .val (.int x1), .val (.int x2), .val (.int x3), .val (.int (((((x0 &&& (255 : Int32)) <<< ((24 : Int32) &&& 31)) ||| ((x1 &&& (255 : Int32)) <<< ((16 : Int32) &&& 31))) ||| ((x2 &&& (255 : Int32)) <<< ((8 : Int32) &&& 31))) ||| (x3 &&& (255 : Int32)))), .unset]) rfl) ?_
  show Goes _ _ _ _ T (mkF me_ 80 #[.val (.ref a0), .val (.int p1), .val (.int p2), .val (.int p3), .val (.int x0), .val (.int x1), .val (.int x2), .val (.int x3), .val (.int (((((x0 &&& (255 : Int32)) <<< ((24 : Int32) &&& 31)) ||| ((x1 &&& (255 : Int32)) <<< ((16 : Int32) &&& 31))) ||| ((x2 &&& (255 : Int32)) <<< ((8 : Int32) &&& 31))) ||| (x3 &&& (255 : Int32)))), .unset] [])
  refine Goes.go (fun _ => XS.iloadN S.here B.x rfl (B.d d_method_2_80) rfl) ?_
  show Goes _ _ _ _ T (mkF me_ 81 #[.val (.ref a0), .val (.int p1), .val (.int p2), .val (.int p3), .val (.int x0), .val (.int x1), .val (.int x2), .val (.int x3), .val (.int (((((x0 &&& (255 : Int32)) <<< ((24 : Int32) &&& 31)) ||| ((x1 &&& (255 : Int32)) <<< ((16 : Int32) &&& 31))) ||| ((x2 &&& (255 : Int32)) <<< ((8 : Int32) &&& 31))) ||| (x3 &&& (255 : Int32)))), .unset] [(.int p3)])
  by_cases hc81 : p3 = (0 : Int32)
  · skip
    refine Goes.go (fun _ => XS.ifNo S.here B.x rfl (B.d d_method_2_81) rfl ((if0 _ _).trans (teq hc81).2)) ?_
    show Goes _ _ _ _ T (mkF me_ 84 #[.val (.ref a0), .val (.int p1), .val (.int p2), .val (.int p3), .val (.int x0), .val (.int x1), .val (.int x2), .val (.int x3), .val (.int (((((x0 &&& (255 : Int32)) <<< ((24 : Int32) &&& 31)) ||| ((x1 &&& (255 : Int32)) <<< ((16 : Int32) &&& 31))) ||| ((x2 &&& (255 : Int32)) <<< ((8 : Int32) &&& 31))) ||| (x3 &&& (255 : Int32)))), .unset] [])
    refine Goes.go (fun _ => XS.iload S.here B.x rfl (B.d d_method_2_84) rfl) ?_
    show Goes _ _ _ _ T (mkF me_ 86 #[.val (.ref a0), .val (.int p1), .val (.int p2), .val (.int p3), .val (.int x0), .val (.int x1), .val (.int x2), .val (.int x3), .val (.int (((((x0 &&& (255 : Int32)) <<< ((24 : Int32) &&& 31)) ||| ((x1 &&& (255 : Int32)) <<< ((16 : Int32) &&& 31))) ||| ((x2 &&& (255 : Int32)) <<< ((8 : Int32) &&& 31))) ||| (x3 &&& (255 : Int32)))), .unset] [(.int (((((x0 &&& (255 : Int32)) <<< ((24 : Int32) &&& 31)) ||| ((x1 &&& (255 : Int32)) <<< ((16 : Int32) &&& 31))) ||| ((x2 &&& (255 : Int32)) <<< ((8 : Int32) &&& 31))) ||| (x3 &&& (255 : Int32))))])
    refine Goes.retI S B d_method_2_86 (by decide) (by decide) ?_
    exact ⟨(by unfold own_ex own_m own_u; first | (rw [if_pos hc81]; done) | (rw [if_neg hc81]; simp only [hc92, hc104, hc116, if_true, if_false]; done) | (rw [if_neg hc81]; simp only [hc92, hc104, hc116, if_true, if_false]; rfl)), rfl⟩
  · skip
    refine Goes.go (fun _ => XS.ifYes S.here B.x rfl (pc0 := 81) (pc' := 87) rfl (B.d d_method_2_81) rfl ((if0 _ _).trans (feq hc81).2) (by decide) (by decide)) ?_
    show Goes _ _ _ _ T (mkF me_ 87 #[.val (.ref a0), .val (.int p1), .val (.int p2), .val (.int p3), .val (.int x0), .val (.int x1), .val (.int x2), .val (.int x3), .val (.int (((((x0 &&& (255 : Int32)) <<< ((24 : Int32) &&& 31)) ||| ((x1 &&& (255 : Int32)) <<< ((16 : Int32) &&& 31))) ||| ((x2 &&& (255 : Int32)) <<< ((8 : Int32) &&& 31))) ||| (x3 &&& (255 : Int32)))), .unset] [])
    refine Goes.go (fun _ => XS.iconst S.here B.x rfl (B.d d_method_2_87)) ?_
    show Goes _ _ _ _ T (mkF me_ 88 #[.val (.ref a0), .val (.int p1), .val (.int p2), .val (.int p3), .val (.int x0), .val (.int x1), .val (.int x2), .val (.int x3), .val (.int (((((x0 &&& (255 : Int32)) <<< ((24 : Int32) &&& 31)) ||| ((x1 &&& (255 : Int32)) <<< ((16 : Int32) &&& 31))) ||| ((x2 &&& (255 : Int32)) <<< ((8 : Int32) &&& 31))) ||| (x3 &&& (255 : Int32)))), .unset] [(.int (0 : Int32))])
    refine Goes.go (fun _ => XS.istore S.here B.x rfl (B.d d_method_2_88) rfl (l' := #[.val (.ref a0), .val (.int p1), .val (.int p2), .val (.int p3), .val (.int x0), .val (.int x1), .val (.int x2), .val (.int x3), .val (.int (((((x0 &&& (255 : Int32)) <<< ((24 : Int32) &&& 31)) ||| ((x1 &&& (255 : Int32)) <<< ((16 : Int32) &&& 31))) ||| ((x2 &&& (255 : Int32)) <<< ((8 : Int32) &&& 31))) ||| (x3 &&& (255 : Int32)))), .val (.int (0 : Int32))]) rfl) ?_
    show Goes _ _ _ _ T (mkF me_ 90 #[.val (.ref a0), .val (.int p1), .val (.int p2), .val (.int p3), .val (.int x0), .val (.int x1), .val (.int x2), .val (.int x3), .val (.int (((((x0 &&& (255 : Int32)) <<< ((24 : Int32) &&& 31)) ||| ((x1 &&& (255 : Int32)) <<< ((16 : Int32) &&& 31))) ||| ((x2 &&& (255 : Int32)) <<< ((8 : Int32) &&& 31))) ||| (x3 &&& (255 : Int32)))), .val (.int (0 : Int32))] [])
    refine Goes.go (fun _ => XS.iload S.here B.x rfl (B.d d_method_2_90) rfl) ?_
    show Goes _ _ _ _ T (mkF me_ 92 #[.val (.ref a0), .val (.int p1), .val (.int p2), .val (.int p3), .val (.int x0), .val (.int x1), .val (.int x2), .val (.int x3), .val (.int (((((x0 &&& (255 : Int32)) <<< ((24 : Int32) &&& 31)) ||| ((x1 &&& (255 : Int32)) <<< ((16 : Int32) &&& 31))) ||| ((x2 &&& (255 : Int32)) <<< ((8 : Int32) &&& 31))) ||| (x3 &&& (255 : Int32)))), .val (.int (0 : Int32))] [(.int x1)])
    by_cases hc92 : x1 < (0 : Int32)
    · skip
      refine Goes.go (fun _ => XS.ifNo S.here B.x rfl (B.d d_method_2_92) rfl ((if0 _ _).trans (tlt hc92).2.1)) ?_
      show Goes _ _ _ _ T (mkF me_ 95 #[.val (.ref a0), .val (.int p1), .val (.int p2), .val (.int p3), .val (.int x0), .val (.int x1), .val (.int x2), .val (.int x3), .val (.int (((((x0 &&& (255 : Int32)) <<< ((24 : Int32) &&& 31)) ||| ((x1 &&& (255 : Int32)) <<< ((16 : Int32) &&& 31))) ||| ((x2 &&& (255 : Int32)) <<< ((8 : Int32) &&& 31))) ||| (x3 &&& (255 : Int32)))), .val (.int (0 : Int32))] [])
      refine Goes.go (fun _ => XS.iload S.here B.x rfl (B.d d_method_2_95) rfl) ?_
      show Goes _ _ _ _ T (mkF me_ 97 #[.val (.ref a0), .val (.int p1), .val (.int p2), .val (.int p3), .val (.int x0), .val (.int x1), .val (.int x2), .val (.int x3), .val (.int (((((x0 &&& (255 : Int32)) <<< ((24 : Int32) &&& 31)) ||| ((x1 &&& (255 : Int32)) <<< ((16 : Int32) &&& 31))) ||| ((x2 &&& (255 : Int32)) <<< ((8 : Int32) &&& 31))) ||| (x3 &&& (255 : Int32)))), .val (.int (0 : Int32))] [(.int (0 : Int32))])
      refine Goes.ldcI S B (w14 hw) d_method_2_97 ?_
      show Goes _ _ _ _ T (mkF me_ 99 #[.val (.ref a0), .val (.int p1), .val (.int p2), .val (.int p3), .val (.int x0), .val (.int x1), .val (.int x2), .val (.int x3), .val (.int (((((x0 &&& (255 : Int32)) <<< ((24 : Int32) &&& 31)) ||| ((x1 &&& (255 : Int32)) <<< ((16 : Int32) &&& 31))) ||| ((x2 &&& (255 : Int32)) <<< ((8 : Int32) &&& 31))) ||| (x3 &&& (255 : Int32)))), .val (.int (0 : Int32))] [(.int (-16777216 : Int32)), (.int (0 : Int32))])
      refine Goes.go (fun _ => XS.ior S.here B.x rfl (B.d d_method_2_99) rfl) ?_
      show Goes _ _ _ _ T (mkF me_ 100 #[.val (.ref a0), .val (.int p1), .val (.int p2), .val (.int p3), .val (.int x0), .val (.int x1), .val (.int x2), .val (.int x3), .val (.int (((((x0 &&& (255 : Int32)) <<< ((24 : Int32) &&& 31)) ||| ((x1 &&& (255 : Int32)) <<< ((16 : Int32) &&& 31))) ||| ((x2 &&& (255 : Int32)) <<< ((8 : Int32) &&& 31))) ||| (x3 &&& (255 : Int32)))), .val (.int (0 : Int32))] [(.int ((0 : Int32) ||| (-16777216 : Int32)))])
      refine Goes.go (fun _ => XS.istore S.here B.x rfl (B.d d_method_2_100) rfl (l' := #[.val (.ref a0), .val (.int p1), .val (.int p2), .val (.int p3), .val (.int x0), .val (.int x1), .val (.int x2), .val (.int x3), .val (.int (((((x0 &&& (255 : Int32)) <<< ((24 : Int32) &&& 31)) ||| ((x1 &&& (255 : Int32)) <<< ((16 : Int32) &&& 31))) ||| ((x2 &&& (255 : Int32)) <<< ((8 : Int32) &&& 31))) ||| (x3 &&& (255 : Int32)))), .val (.int ((0 : Int32) ||| (-16777216 : Int32)))]) rfl) ?_
      show Goes _ _ _ _ T (mkF me_ 102 #[.val (.ref a0), .val (.int p1), .val (.int p2), .val (.int p3), .val (.int x0), .val (.int x1), .val (.int x2), .val (.int x3), .val (.int (((((x0 &&& (255 : Int32)) <<< ((24 : Int32) &&& 31)) ||| ((x1 &&& (255 : Int32)) <<< ((16 : Int32) &&& 31))) ||| ((x2 &&& (255 : Int32)) <<< ((8 : Int32) &&& 31))) ||| (x3 &&& (255 : Int32)))), .val (.int ((0 : Int32) ||| (-16777216 : Int32)))] [])
      refine Goes.go (fun _ => XS.iload S.here B.x rfl (B.d d_method_2_102) rfl) ?_
      show Goes _ _ _ _ T (mkF me_ 104 #[.val (.ref a0), .val (.int p1), .val (.int p2), .val (.int p3), .val (.int x0), .val (.int x1), .val (.int x2), .val (.int x3), .val (.int (((((x0 &&& (255 : Int32)) <<< ((24 : Int32) &&& 31)) ||| ((x1 &&& (255 : Int32)) <<< ((16 : Int32) &&& 31))) ||| ((x2 &&& (255 : Int32)) <<< ((8 : Int32) &&& 31))) ||| (x3 &&& (255 : Int32)))), .val (.int ((0 : Int32) ||| (-16777216 : Int32)))] [(.int x2)])
      by_cases hc104 : x2 < (0 : Int32)
      · skip
        refine Goes.go (fun _ => XS.ifNo S.here B.x rfl (B.d d_method_2_104) rfl ((if0 _ _).trans (tlt hc104).2.1)) ?_
        show Goes _ _ _ _ T (mkF me_ 107 #[.val (.ref a0), .val (.int p1), .val (.int p2), .val (.int p3), .val (.int x0), .val (.int x1), .val (.int x2), .val (.int x3), .val (.int (((((x0 &&& (255 : Int32)) <<< ((24 : Int32) &&& 31)) ||| ((x1 &&& (255 : Int32)) <<< ((16 : Int32) &&& 31))) ||| ((x2 &&& (255 : Int32)) <<< ((8 : Int32) &&& 31))) ||| (x3 &&& (255 : Int32)))), .val (.int ((0 : Int32) ||| (-16777216 : Int32)))] [])
        refine Goes.go (fun _ => XS.iload S.here B.x rfl (B.d d_method_2_107) rfl) ?_
        show Goes _ _ _ _ T (mkF me_ 109 #[.val (.ref a0), .val (.int p1), .val (.int p2), .val (.int p3), .val (.int x0), .val (.int x1), .val (.int x2), .val (.int x3), .val (.int (((((x0 &&& (255 : Int32)) <<< ((24 : Int32) &&& 31)) ||| ((x1 &&& (255 : Int32)) <<< ((16 : Int32) &&& 31))) ||| ((x2 &&& (255 : Int32)) <<< ((8 : Int32) &&& 31))) ||| (x3 &&& (255 : Int32)))), .val (.int ((0 : Int32) ||| (-16777216 : Int32)))] [(.int ((0 : Int32) ||| (-16777216 : Int32)))])
        refine Goes.ldcI S B (w15 hw) d_method_2_109 ?_
        show Goes _ _ _ _ T (mkF me_ 111 #[.val (.ref a0), .val (.int p1), .val (.int p2), .val (.int p3), .val (.int x0), .val (.int x1), .val (.int x2), .val (.int x3), .val (.int (((((x0 &&& (255 : Int32)) <<< ((24 : Int32) &&& 31)) ||| ((x1 &&& (255 : Int32)) <<< ((16 : Int32) &&& 31))) ||| ((x2 &&& (255 : Int32)) <<< ((8 : Int32) &&& 31))) ||| (x3 &&& (255 : Int32)))), .val (.int ((0 : Int32) ||| (-16777216 : Int32)))] [(.int (-65536 : Int32)), (.int ((0 : Int32) ||| (-16777216 : Int32)))])
        refine Goes.go (fun _ => XS.ior S.here B.x rfl (B.d d_method_2_111) rfl) ?_
        show Goes _ _ _ _ T (mkF me_ 112 #[.val (.ref a0), .val (.int p1), .val (.int p2), .val (.int p3), .val (.int x0), .val (.int x1), .val (.int x2), .val (.int x3), .val (.int (((((x0 &&& (255 : Int32)) <<< ((24 : Int32) &&& 31)) ||| ((x1 &&& (255 : Int32)) <<< ((16 : Int32) &&& 31))) ||| ((x2 &&& (255 : Int32)) <<< ((8 : Int32) &&& 31))) ||| (x3 &&& (255 : Int32)))), .val (.int ((0 : Int32) ||| (-16777216 : Int32)))] [(.int (((0 : Int32) ||| (-16777216 : Int32)) ||| (-65536 : Int32)))])
        refine Goes.go (fun _ => XS.istore S.here B.x rfl (B.d d_method_2_112) rfl (l' := #[.val (.ref a0), .val (.int p1), .val (.int p2), .val (.int p3), .val (.int x0), .val (.int x1), .val (.int x2), .val (.int x3), .val (.int (((((x0 &&& (255 : Int32)) <<< ((24 : Int32) &&& 31)) ||| ((x1 &&& (255 : Int32)) <<< ((16 : Int32) &&& 31))) ||| ((x2 &&& (255 : Int32)) <<< ((8 : Int32) &&& 31))) ||| (x3 &&& (255 : Int32)))), .val (.int (((0 : Int32) ||| (-16777216 : Int32)) ||| (-65536 : Int32)))]) rfl) ?_
        show Goes _ _ _ _ T (mkF me_ 114 #[.val (.ref a0), .val (.int p1), .val (.int p2), .val (.int p3), .val (.int x0), .val (.int x1), .val (.int x2), .val (.int x3), .val (.int (((((x0 &&& (255 : Int32)) <<< ((24 : Int32) &&& 31)) ||| ((x1 &&& (255 : Int32)) <<< ((16 : Int32) &&& 31))) ||| ((x2 &&& (255 : Int32)) <<< ((8 : Int32) &&& 31))) ||| (x3 &&& (255 : Int32)))), .val (.int (((0 : Int32) ||| (-16777216 : Int32)) ||| (-65536 : Int32)))] [])
        refine Goes.go (fun _ => XS.iload S.here B.x rfl (B.d d_method_2_114) rfl) ?_
        show Goes _ _ _ _ T (mkF me_ 116 #[.val (.ref a0), .val (.int p1), .val (.int p2), .val (.int p3), .val (.int x0), .val (.int x1), .val (.int x2), .val (.int x3), .val (.int (((((x0 &&& (255 : Int32)) <<< ((24 : Int32) &&& 31)) ||| ((x1 &&& (255 : Int32)) <<< ((16 : Int32) &&& 31))) ||| ((x2 &&& (255 : Int32)) <<< ((8 : Int32) &&& 31))) ||| (x3 &&& (255 : Int32)))), .val (.int (((0 : Int32) ||| (-16777216 : Int32)) ||| (-65536 : Int32)))] [(.int x3)])
        by_cases hc116 : x3 < (0 : Int32)
        · skip
          refine Goes.go (fun _ => XS.ifNo S.here B.x rfl (B.d d_method_2_116) rfl ((if0 _ _).trans (tlt hc116).2.1)) ?_
          show Goes _ _ _ _ T (mkF me_ 119 #[.val (.ref a0), .val (.int p1), .val (.int p2), .val (.int p3), .val (.int x0), .val (.int x1), .val (.int x2), .val (.int x3), .val (.int (((((x0 &&& (255 : Int32)) <<< ((24 : Int32) &&& 31)) ||| ((x1 &&& (255 : Int32)) <<< ((16 : Int32) &&& 31))) ||| ((x2 &&& (255 : Int32)) <<< ((8 : Int32) &&& 31))) ||| (x3 &&& (255 : Int32)))), .val (.int (((0 : Int32) ||| (-16777216 : Int32)) ||| (-65536 : Int32)))] [])
          refine Goes.go (fun _ => XS.iload S.here B.x rfl (B.d d_method_2_119) rfl) ?_
          show Goes _ _ _ _ T (mkF me_ 121 #[.val (.ref a0), .val (.int p1), .val (.int p2), .val (.int p3), .val (.int x0), .val (.int x1), .val (.int x2), .val (.int x3), .val (.int (((((x0 &&& (255 : Int32)) <<< ((24 : Int32) &&& 31)) ||| ((x1 &&& (255 : Int32)) <<< ((16 : Int32) &&& 31))) ||| ((x2 &&& (255 : Int32)) <<< ((8 : Int32) &&& 31))) ||| (x3 &&& (255 : Int32)))), .val (.int (((0 : Int32) ||| (-16777216 : Int32)) ||| (-65536 : Int32)))] [(.int (((0 : Int32) ||| (-16777216 : Int32)) ||| (-65536 : Int32)))])
          refine Goes.go (fun _ => XS.sipush S.here B.x rfl (B.d d_method_2_121)) ?_
          show Goes _ _ _ _ T (mkF me_ 124 #[.val (.ref a0), .val (.int p1), .val (.int p2), .val (.int p3), .val (.int x0), .val (.int x1), .val (.int x2), .val (.int x3), .val (.int (((((x0 &&& (255 : Int32)) <<< ((24 : Int32) &&& 31)) ||| ((x1 &&& (255 : Int32)) <<< ((16 : Int32) &&& 31))) ||| ((x2 &&& (255 : Int32)) <<< ((8 : Int32) &&& 31))) ||| (x3 &&& (255 : Int32)))), .val (.int (((0 : Int32) ||| (-16777216 : Int32)) ||| (-65536 : Int32)))] [(.int (-256 : Int32)), (.int (((0 : Int32) ||| (-16777216 : Int32)) ||| (-65536 : Int32)))])
          refine Goes.go (fun _ => XS.ior S.here B.x rfl (B.d d_method_2_124) rfl) ?_
          show Goes _ _ _ _ T (mkF me_ 125 #[.val (.ref a0), .val (.int p1), .val (.int p2), .val (.int p3), .val (.int x0), .val (.int x1), .val (.int x2), .val (.int x3), .val (.int (((((x0 &&& (255 : Int32)) <<< ((24 : Int32) &&& 31)) ||| ((x1 &&& (255 : Int32)) <<< ((16 : Int32) &&& 31))) ||| ((x2 &&& (255 : Int32)) <<< ((8 : Int32) &&& 31))) ||| (x3 &&& (255 : Int32)))), .val (.int (((0 : Int32) ||| (-16777216 : Int32)) ||| (-65536 : Int32)))] [(.int ((((0 : Int32) ||| (-16777216 : Int32)) ||| (-65536 : Int32)) ||| (-256 : Int32)))])
          refine Goes.go (fun _ => XS.istore S.here B.x rfl (B.d d_method_2_125) rfl (l' := #[.val (.ref a0), .val (.int p1), .val (.int p2), .val (.int p3), .val (.int x0), .val (.int x1), .val (.int x2), .val (.int x3), .val (.int (((((x0 &&& (255 : Int32)) <<< ((24 : Int32) &&& 31)) ||| ((x1 &&& (255 : Int32)) <<< ((16 : Int32) &&& 31))) ||| ((x2 &&& (255 : Int32)) <<< ((8 : Int32) &&& 31))) ||| (x3 &&& (255 : Int32)))), .val (.int ((((0 : Int32) ||| (-16777216 : Int32)) ||| (-65536 : Int32)) ||| (-256 : Int32)))]) rfl) ?_
          show Goes _ _ _ _ T (mkF me_ 127 #[.val (.ref a0), .val (.int p1), .val (.int p2), .val (.int p3), .val (.int x0), .val (.int x1), .val (.int x2), .val (.int x3), .val (.int (((((x0 &&& (255 : Int32)) <<< ((24 : Int32) &&& 31)) ||| ((x1 &&& (255 : Int32)) <<< ((16 : Int32) &&& 31))) ||| ((x2 &&& (255 : Int32)) <<< ((8 : Int32) &&& 31))) ||| (x3 &&& (255 : Int32)))), .val (.int ((((0 : Int32) ||| (-16777216 : Int32)) ||| (-65536 : Int32)) ||| (-256 : Int32)))] [])
          refine Goes.go (fun _ => XS.iload S.here B.x rfl (B.d d_method_2_127) rfl) ?_
          show Goes _ _ _ _ T (mkF me_ 129 #[.val (.ref a0), .val (.int p1), .val (.int p2), .val (.int p3), .val (.int x0), .val (.int x1), .val (.int x2), .val (.int x3), .val (.int (((((x0 &&& (255 : Int32)) <<< ((24 : Int32) &&& 31)) ||| ((x1 &&& (255 : Int32)) <<< ((16 : Int32) &&& 31))) ||| ((x2 &&& (255 : Int32)) <<< ((8 : Int32) &&& 31))) ||| (x3 &&& (255 : Int32)))), .val (.int ((((0 : Int32) ||| (-16777216 : Int32)) ||| (-65536 : Int32)) ||| (-256 : Int32)))] [(.int (((((x0 &&& (255 : Int32)) <<< ((24 : Int32) &&& 31)) ||| ((x1 &&& (255 : Int32)) <<< ((16 : Int32) &&& 31))) ||| ((x2 &&& (255 : Int32)) <<< ((8 : Int32) &&& 31))) ||| (x3 &&& (255 : Int32))))])
          refine Goes.go (fun _ => XS.iload S.here B.x rfl (B.d d_method_2_129) rfl) ?_
          show Goes _ _ _ _ T (mkF me_ 131 #[.val (.ref a0), .val (.int p1), .val (.int p2), .val (.int p3), .val (.int x0), .val (.int x1), .val (.int x2), .val (.int x3), .val (.int (((((x0 &&& (255 : Int32)) <<< ((24 : Int32) &&& 31)) ||| ((x1 &&& (255 : Int32)) <<< ((16 : Int32) &&& 31))) ||| ((x2 &&& (255 : Int32)) <<< ((8 : Int32) &&& 31))) ||| (x3 &&& (255 : Int32)))), .val (.int ((((0 : Int32) ||| (-16777216 : Int32)) ||| (-65536 : Int32)) ||| (-256 : Int32)))] [(.int ((((0 : Int32) ||| (-16777216 : Int32)) ||| (-65536 : Int32)) ||| (-256 : Int32))), (.int (((((x0 &&& (255 : Int32)) <<< ((24 : Int32) &&& 31)) ||| ((x1 &&& (255 : Int32)) <<< ((16 : Int32) &&& 31))) ||| ((x2 &&& (255 : Int32)) <<< ((8 : Int32) &&& 31))) ||| (x3 &&& (255 : Int32))))])
          refine Goes.go (fun _ => XS.ior S.here B.x rfl (B.d d_method_2_131) rfl) ?_
          show Goes _ _ _ _ T (mkF me_ 132 #[.val (.ref a0), .val (.int p1), .val (.int p2), .val (.int p3), .val (.int x0), .val (.int x1), .val (.int x2), .val (.int x3), .val (.int (((((x0 &&& (255 : Int32)) <<< ((24 : Int32) &&& 31)) ||| ((x1 &&& (255 : Int32)) <<< ((16 : Int32) &&& 31))) ||| ((x2 &&& (255 : Int32)) <<< ((8 : Int32) &&& 31))) ||| (x3 &&& (255 : Int32)))), .val (.int ((((0 : Int32) ||| (-16777216 : Int32)) ||| (-65536 : Int32)) ||| (-256 : Int32)))] [(.int ((((((x0 &&& (255 : Int32)) <<< ((24 : Int32) &&& 31)) ||| ((x1 &&& (255 : Int32)) <<< ((16 : Int32) &&& 31))) ||| ((x2 &&& (255 : Int32)) <<< ((8 : Int32) &&& 31))) ||| (x3 &&& (255 : Int32))) ||| ((((0 : Int32) ||| (-16777216 : Int32)) ||| (-65536 : Int32)) ||| (-256 : Int32))))])
          refine Goes.retI S B d_method_2_132 (by decide) (by decide) ?_
          exact ⟨(by unfold own_ex own_m own_u; first | (rw [if_pos hc81]; done) | (rw [if_neg hc81]; simp only [hc92, hc104, hc116, if_true, if_false]; done) | (rw [if_neg hc81]; simp only [hc92, hc104, hc116, if_true, if_false]; rfl)), rfl⟩
        · skip
          refine Goes.go (fun _ => XS.ifYes S.here B.x rfl (pc0 := 116) (pc' := 127) rfl (B.d d_method_2_116) rfl ((if0 _ _).trans (flt hc116).2.1) (by decide) (by decide)) ?_
          show Goes _ _ _ _ T (mkF me_ 127 #[.val (.ref a0), .val (.int p1), .val (.int p2), .val (.int p3), .val (.int x0), .val (.int x1), .val (.int x2), .val (.int x3), .val (.int (((((x0 &&& (255 : Int32)) <<< ((24 : Int32) &&& 31)) ||| ((x1 &&& (255 : Int32)) <<< ((16 : Int32) &&& 31))) ||| ((x2 &&& (255 : Int32)) <<< ((8 : Int32) &&& 31))) ||| (x3 &&& (255 : Int32)))), .val (.int (((0 : Int32) ||| (-16777216 : Int32)) ||| (-65536 : Int32)))] [])
          refine Goes.go (fun _ => XS.iload S.here B.x rfl (B.d d_method_2_127) rfl) ?_
          show Goes _ _ _ _ T (mkF me_ 129 #[.val (.ref a0), .val (.int p1), .val (.int p2), .val (.int p3), .val (.int x0), .val (.int x1), .val (.int x2), .val (.int x3), .val (.int (((((x0 &&& (255 : Int32)) <<< ((24 : Int32) &&& 31)) ||| ((x1 &&& (255 : Int32)) <<< ((16 : Int32) &&& 31))) ||| ((x2 &&& (255 : Int32)) <<< ((8 : Int32) &&& 31))) ||| (x3 &&& (255 : Int32)))), .val (.int (((0 : Int32) ||| (-16777216 : Int32)) ||| (-65536 : Int32)))] [(.int (((((x0 &&& (255 : Int32)) <<< ((24 : Int32) &&& 31)) ||| ((x1 &&& (255 : Int32)) <<< ((16 : Int32) &&& 31))) ||| ((x2 &&& (255 : Int32)) <<< ((8 : Int32) &&& 31))) ||| (x3 &&& (255 : Int32))))])
          refine Goes.go (fun _ => XS.iload S.here B.x rfl (B.d d_method_2_129) rfl) ?_
          show Goes _ _ _ _ T (mkF me_ 131 #[.val (.ref a0), .val (.int p1), .val (.int p2), .val (.int p3), .val (.int x0), .val (.int x1), .val (.int x2), .val (.int x3), .val (.int (((((x0 &&& (255 : Int32)) <<< ((24 : Int32) &&& 31)) ||| ((x1 &&& (255 : Int32)) <<< ((16 : Int32) &&& 31))) ||| ((x2 &&& (255 : Int32)) <<< ((8 : Int32) &&& 31))) ||| (x3 &&& (255 : Int32)))), .val (.int (((0 : Int32) ||| (-16777216 : Int32)) ||| (-65536 : Int32)))] [(.int (((0 : Int32) ||| (-16777216 : Int32)) ||| (-65536 : Int32))), (.int (((((x0 &&& (255 : Int32)) <<< ((24 : Int32) &&& 31)) ||| ((x1 &&& (255 : Int32)) <<< ((16 : Int32) &&& 31))) ||| ((x2 &&& (255 : Int32)) <<< ((8 : Int32) &&& 31))) ||| (x3 &&& (255 : Int32))))])
          refine Goes.go (fun _ => XS.ior S.here B.x rfl (B.d d_method_2_131) rfl) ?_
          show Goes _ _ _ _ T (mkF me_ 132 #[.val (.ref a0), .val (.int p1), .val (.int p2), .val (.int p3), .val (.int x0), .val (.int x1), .val (.int x2), .val (.int x3), .val (.int (((((x0 &&& (255 : Int32)) <<< ((24 : Int32) &&& 31)) ||| ((x1 &&& (255 : Int32)) <<< ((16 : Int32) &&& 31))) ||| ((x2 &&& (255 : Int32)) <<< ((8 : Int32) &&& 31))) ||| (x3 &&& (255 : Int32)))), .val (.int (((0 : Int32) ||| (-16777216 : Int32)) ||| (-65536 : Int32)))] [(.int ((((((x0 &&& (255 : Int32)) <<< ((24 : Int32) &&& 31)) ||| ((x1 &&& (255 : Int32)) <<< ((16 : Int32) &&& 31))) ||| ((x2 &&& (255 : Int32)) <<< ((8 : Int32) &&& 31))) ||| (x3 &&& (255 : Int32))) ||| (((0 : Int32) ||| (-16777216 : Int32)) ||| (-65536 : Int32))))])
          refine Goes.retI S B d_method_2_132 (by decide) (by decide) ?_
          exact ⟨(by unfold own_ex own_m own_u; first | (rw [if_pos hc81]; done) | (rw [if_neg hc81]; simp only [hc92, hc104, hc116, if_true, if_false]; done) | (rw [if_neg hc81]; simp only [hc92, hc104, hc116, if_true, if_false]; rfl)), rfl⟩
      · skip
        refine Goes.go (fun _ => XS.ifYes S.here B.x rfl (pc0 := 104) (pc' := 114) rfl (B.d d_method_2_104) rfl ((if0 _ _).trans (flt hc104).2.1) (by decide) (by decide)) ?_
        show Goes _ _ _ _ T (mkF me_ 114 #[.val (.ref a0), .val (.int p1), .val (.int p2), .val (.int p3), .val (.int x0), .val (.int x1), .val (.int x2), .val (.int x3), .val (.int (((((x0 &&& (255 : Int32)) <<< ((24 : Int32) &&& 31)) ||| ((x1 &&& (255 : Int32)) <<< ((16 : Int32) &&& 31))) ||| ((x2 &&& (255 : Int32)) <<< ((8 : Int32) &&& 31))) ||| (x3 &&& (255 : Int32)))), .val (.int ((0 : Int32) ||| (-16777216 : Int32)))] [])
        refine Goes.go (fun _ => XS.iload S.here B.x rfl (B.d d_method_2_114) rfl) ?_
        show Goes _ _ _ _ T (mkF me_ 116 #[.val (.ref a0), .val (.int p1), .val (.int p2), .val (.int p3), .val (.int x0), .val (.int x1), .val (.int x2), .val (.int x3), .val (.int (((((x0 &&& (255 : Int32)) <<< ((24 : Int32) &&& 31)) ||| ((x1 &&& (255 : Int32)) <<< ((16 : Int32) &&& 31))) ||| ((x2 &&& (255 : Int32)) <<< ((8 : Int32) &&& 31))) ||| (x3 &&& (255 : Int32)))), .val (.int ((0 : Int32) ||| (-16777216 : Int32)))] [(.int x3)])
        by_cases hc116 : x3 < (0 : Int32)
        · skip
          refine Goes.go (fun _ => XS.ifNo S.here B.x rfl (B.d d_method_2_116) rfl ((if0 _ _).trans (tlt hc116).2.1)) ?_
          show Goes _ _ _ _ T (mkF me_ 119 #[.val (.ref a0), .val (.int p1), .val (.int p2), .val (.int p3), .val (.int x0), .val (.int x1), .val (.int x2), .val (.int x3), .val (.int (((((x0 &&& (255 : Int32)) <<< ((24 : Int32) &&& 31)) ||| ((x1 &&& (255 : Int32)) <<< ((16 : Int32) &&& 31))) ||| ((x2 &&& (255 : Int32)) <<< ((8 : Int32) &&& 31))) ||| (x3 &&& (255 : Int32)))), .val (.int ((0 : Int32) ||| (-16777216 : Int32)))] [])
          refine Goes.go (fun _ => XS.iload S.here B.x rfl (B.d d_method_2_119) rfl) ?_
          show Goes _ _ _ _ T (mkF me_ 121 #[.val (.ref a0), .val (.int p1), .val (.int p2), .val (.int p3), .val (.int x0), .val (.int x1), .val (.int x2), .val (.int x3), .val (.int (((((x0 &&& (255 : Int32)) <<< ((24 : Int32) &&& 31)) ||| ((x1 &&& (255 : Int32)) <<< ((16 : Int32) &&& 31))) ||| ((x2 &&& (255 : Int32)) <<< ((8 : Int32) &&& 31))) ||| (x3 &&& (255 : Int32)))), .val (.int ((0 : Int32) ||| (-16777216 : Int32)))] [(.int ((0 : Int32) ||| (-16777216 : Int32)))])
          refine Goes.go (fun _ => XS.sipush S.here B.x rfl (B.d d_method_2_121)) ?_
          show Goes _ _ _ _ T (mkF me_ 124 #[.val (.ref a0), .val (.int p1), .val (.int p2), .val (.int p3), .val (.int x0), .val (.int x1), .val (.int x2), .val (.int x3), .val (.int (((((x0 &&& (255 : Int32)) <<< ((24 : Int32) &&& 31)) ||| ((x1 &&& (255 : Int32)) <<< ((16 : Int32) &&& 31))) ||| ((x2 &&& (255 : Int32)) <<< ((8 : Int32) &&& 31))) ||| (x3 &&& (255 : Int32)))), .val (.int ((0 : Int32) ||| (-16777216 : Int32)))] [(.int (-256 : Int32)), (.int ((0 : Int32) ||| (-16777216 : Int32)))])
          refine Goes.go (fun _ => XS.ior S.here B.x rfl (B.d d_method_2_124) rfl) ?_
          show Goes _ _ _ _ T (mkF me_ 125 #[.val (.ref a0), .val (.int p1), .val (.int p2), .val (.int p3), .val (.int x0), .val (.int x1), .val (.int x2), .val (.int x3), .val (.int (((((x0 &&& (255 : Int32)) <<< ((24 : Int32) &&& 31)) ||| ((x1 &&& (255 : Int32)) <<< ((16 : Int32) &&& 31))) ||| ((x2 &&& (255 : Int32)) <<< ((8 : Int32) &&& 31))) ||| (x3 &&& (255 : Int32)))), .val (.int ((0 : Int32) ||| (-16777216 : Int32)))] [(.int (((0 : Int32) ||| (-16777216 : Int32)) ||| (-256 : Int32)))])
          refine Goes.go (fun _ => XS.istore S.here B.x rfl (B.d d_method_2_125) rfl (l' := #[.val (.ref a0), .val (.int p1), .val (.int p2), .val (.int p3), .val (.int x0), .val (.int x1), .val (.int x2), .val (.int x3), .val (.int (((((x0 &&& (255 : Int32)) <<< ((24 : Int32) &&& 31)) ||| ((x1 &&& (255 : Int32)) <<< ((16 : Int32) &&& 31))) ||| ((x2 &&& (255 : Int32)) <<< ((8 : Int32) &&& 31))) ||| (x3 &&& (255 : Int32)))), .val (.int (((0 : Int32) ||| (-16777216 : Int32)) ||| (-256 : Int32)))]) rfl) ?_
          show Goes _ _ _ _ T (mkF me_ 127 #[.val (.ref a0), .val (.int p1), .val (.int p2), .val (.int p3), .val (.int x0), .val (.int x1), .val (.int x2), .val (.int x3), .val (.int (((((x0 &&& (255 : Int32)) <<< ((24 : Int32) &&& 31)) ||| ((x1 &&& (255 : Int32)) <<< ((16 : Int32) &&& 31))) ||| ((x2 &&& (255 : Int32)) <<< ((8 : Int32) &&& 31))) ||| (x3 &&& (255 : Int32)))), .val (.int (((0 : Int32) ||| (-16777216 : Int32)) ||| (-256 : Int32)))] [])
          refine Goes.go (fun _ => XS.iload S.here B.x rfl (B.d d_method_2_127) rfl) ?_
          show Goes _ _ _ _ T (mkF me_ 129 #[.val (.ref a0), .val (.int p1), .val (.int p2), .val (.int p3), .val (.int x0), .val (.int x1), .val (.int x2), .val (.int x3), .val (.int (((((x0 &&& (255 : Int32)) <<< ((24 : Int32) &&& 31)) ||| ((x1 &&& (255 : Int32)) <<< ((16 : Int32) &&& 31))) ||| ((x2 &&& (255 : Int32)) <<< ((8 : Int32) &&& 31))) ||| (x3 &&& (255 : Int32)))), .val (.int (((0 : Int32) ||| (-16777216 : Int32)) ||| (-256 : Int32)))] [(.int (((((x0 &&& (255 : Int32)) <<< ((24 : Int32) &&& 31)) ||| ((x1 &&& (255 : Int32)) <<< ((16 : Int32) &&& 31))) ||| ((x2 &&& (255 : Int32)) <<< ((8 : Int32) &&& 31))) ||| (x3 &&& (255 : Int32))))])
          refine Goes.go (fun _ => XS.iload S.here B.x rfl (B.d d_method_2_129) rfl) ?_
          show Goes _ _ _ _ T (mkF me_ 131 #[.val (.ref a0), .val (.int p1), .val (.int p2), .val (.int p3), .val (.int x0), .val (.int x1), .val (.int x2), .val (.int x3), .val (.int (((((x0 &&& (255 : Int32)) <<< ((24 : Int32) &&& 31)) ||| ((x1 &&& (255 : Int32)) <<< ((16 : Int32) &&& 31))) ||| ((x2 &&& (255 : Int32)) <<< ((8 : Int32) &&& 31))) ||| (x3 &&& (255 : Int32)))), .val (.int (((0 : Int32) ||| (-16777216 : Int32)) ||| (-256 : Int32)))] [(.int (((0 : Int32) ||| (-16777216 : Int32)) ||| (-256 : Int32))), (.int (((((x0 &&& (255 : Int32)) <<< ((24 : Int32) &&& 31)) ||| ((x1 &&& (255 : Int32)) <<< ((16 : Int32) &&& 31))) ||| ((x2 &&& (255 : Int32)) <<< ((8 : Int32) &&& 31))) ||| (x3 &&& (255 : Int32))))])
          refine Goes.go (fun _ => XS.ior S.here B.x rfl (B.d d_method_2_131) rfl) ?_
          show Goes _ _ _ _ T (mkF me_ 132 #[.val (.ref a0), .val (.int p1), .val (.int p2), .val (.int p3), .val (.int x0), .val (.int x1), .val (.int x2), .val (.int x3), .val (.int (((((x0 &&& (255 : Int32)) <<< ((24 : Int32) &&& 31)) ||| ((x1 &&& (255 : Int32)) <<< ((16 : Int32) &&& 31))) ||| ((x2 &&& (255 : Int32)) <<< ((8 : Int32) &&& 31))) ||| (x3 &&& (255 : Int32)))), .val (.int (((0 : Int32) ||| (-16777216 : Int32)) ||| (-256 : Int32)))] [(.int ((((((x0 &&& (255 : Int32)) <<< ((24 : Int32) &&& 31)) ||| ((x1 &&& (255 : Int32)) <<< ((16 : Int32) &&& 31))) ||| ((x2 &&& (255 : Int32)) <<< ((8 : Int32) &&& 31))) ||| (x3 &&& (255 : Int32))) ||| (((0 : Int32) ||| (-16777216 : Int32)) ||| (-256 : Int32))))])
          refine Goes.retI S B d_method_2_132 (by decide) (by decide) ?_
          exact ⟨(by unfold own_ex own_m own_u; first | (rw [if_pos hc81]; done) | (rw [if_neg hc81]; simp only [hc92, hc104, hc116, if_true, if_false]; done) | (rw [if_neg hc81]; simp only [hc92, hc104, hc116, if_true, if_false]; rfl)), rfl⟩
        · skip
          refine Goes.go (fun _ => XS.ifYes S.here B.x rfl (pc0 := 116) (pc' := 127) rfl (B.d d_method_2_116) rfl ((if0 _ _).trans (flt hc116).2.1) (by decide) (by decide)) ?_
          show Goes _ _ _ _ T (mkF me_ 127 #[.val (.ref a0), .val (.int p1), .val (.int p2), .val (.int p3), .val (.int x0), .val (.int x1), .val (.int x2), .val (.int x3), .val (.int (((((x0 &&& (255 : Int32)) <<< ((24 : Int32) &&& 31)) ||| ((x1 &&& (255 : Int32)) <<< ((16 : Int32) &&& 31))) ||| ((x2 &&& (255 : Int32)) <<< ((8 : Int32) &&& 31))) ||| (x3 &&& (255 : Int32)))), .val (.int ((0 : Int32) ||| (-16777216 : Int32)))] [])
          refine Goes.go (fun _ => XS.iload S.here B.x rfl (B.d d_method_2_127) rfl) ?_
          show Goes _ _ _ _ T (mkF me_ 129 #[.val (.ref a0), .val (.int p1), .val (.int p2), .val (.int p3), .val (.int x0), .val (.int x1), .val (.int x2), .val (.int x3), .val (.int (((((x0 &&& (255 : Int32)) <<< ((24 : Int32) &&& 31)) ||| ((x1 &&& (255 : Int32)) <<< ((16 : Int32) &&& 31))) ||| ((x2 &&& (255 : Int32)) <<< ((8 : Int32) &&& 31))) ||| (x3 &&& (255 : Int32)))), .val (.int ((0 : Int32) ||| (-16777216 : Int32)))] [(.int (((((x0 &&& (255 : Int32)) <<< ((24 : Int32) &&& 31)) ||| ((x1 &&& (255 : Int32)) <<< ((16 : Int32) &&& 31))) ||| ((x2 &&& (255 : Int32)) <<< ((8 : Int32) &&& 31))) ||| (x3 &&& (255 : Int32))))])
          refine Goes.go (fun _ => XS.iload S.here B.x rfl (B.d d_method_2_129) rfl) ?_
          show Goes _ _ _ _ T (mkF me_ 131 #[.val (.ref a0), .val (.int p1), .val (.int p2), .val (.int p3), .val (.int x0), .val (.int x1), .val (.int x2), .val (.int x3), .val (.int (((((x0 &&& (255 : Int32)) <<< ((24 : Int32) &&& 31)) ||| ((x1 &&& (255 : Int32)) <<< ((16 : Int32) &&& 31))) ||| ((x2 &&& (255 : Int32)) <<< ((8 : Int32) &&& 31))) ||| (x3 &&& (255 : Int32)))), .val (.int ((0 : Int32) ||| (-16777216 : Int32)))] [(.int ((0 : Int32) ||| (-16777216 : Int32))), (.int (((((x0 &&& (255 : Int32)) <<< ((24 : Int32) &&& 31)) ||| ((x1 &&& (255 : Int32)) <<< ((16 : Int32) &&& 31))) ||| ((x2 &&& (255 : Int32)) <<< ((8 : Int32) &&& 31))) ||| (x3 &&& (255 : Int32))))])
          refine Goes.go (fun _ => XS.ior S.here B.x rfl (B.d d_method_2_131) rfl) ?_
          show Goes _ _ _ _ T (mkF me_ 132 #[.val (.ref a0), .val (.int p1), .val (.int p2), .val (.int p3), .val (.int x0), .val (.int x1), .val (.int x2), .val (.int x3), .val (.int (((((x0 &&& (255 : Int32)) <<< ((24 : Int32) &&& 31)) ||| ((x1 &&& (255 : Int32)) <<< ((16 : Int32) &&& 31))) ||| ((x2 &&& (255 : Int32)) <<< ((8 : Int32) &&& 31))) ||| (x3 &&& (255 : Int32)))), .val (.int ((0 : Int32) ||| (-16777216 : Int32)))] [(.int ((((((x0 &&& (255 : Int32)) <<< ((24 : Int32) &&& 31)) ||| ((x1 &&& (255 : Int32)) <<< ((16 : Int32) &&& 31))) ||| ((x2 &&& (255 : Int32)) <<< ((8 : Int32) &&& 31))) ||| (x3 &&& (255 : Int32))) ||| ((0 : Int32) ||| (-16777216 : Int32))))])
          refine Goes.retI S B d_method_2_132 (by decide) (by decide) ?_
          exact ⟨(by unfold own_ex own_m own_u; first | (rw [if_pos hc81]; done) | (rw [if_neg hc81]; simp only [hc92, hc104, hc116, if_true, if_false]; done) | (rw [if_neg hc81]; simp only [hc92, hc104, hc116, if_true, if_false]; rfl)), rfl⟩
    · skip
      refine Goes.go (fun _ => XS.ifYes S.here B.x rfl (pc0 := 92) (pc' := 102) rfl (B.d d_method_2_92) rfl ((if0 _ _).trans (flt hc92).2.1) (by decide) (by decide)) ?_
      show Goes _ _ _ _ T (mkF me_ 102 #[.val (.ref a0), .val (.int p1), .val (.int p2), .val (.int p3), .val (.int x0), .val (.int x1), .val (.int x2), .val (.int x3), .val (.int (((((x0 &&& (255 : Int32)) <<< ((24 : Int32) &&& 31)) ||| ((x1 &&& (255 : Int32)) <<< ((16 : Int32) &&& 31))) ||| ((x2 &&& (255 : Int32)) <<< ((8 : Int32) &&& 31))) ||| (x3 &&& (255 : Int32)))), .val (.int (0 : Int32))] [])
      refine Goes.go (fun _ => XS.iload S.here B.x rfl (B.d d_method_2_102) rfl) ?_
      show Goes _ _ _ _ T (mkF me_ 104 #[.val (.ref a0), .val (.int p1), .val (.int p2), .val (.int p3), .val (.int x0), .val (.int x1), .val (.int x2), .val (.int x3), .val (.int (((((x0 &&& (255 : Int32)) <<< ((24 : Int32) &&& 31)) ||| ((x1 &&& (255 : Int32)) <<< ((16 : Int32) &&& 31))) ||| ((x2 &&& (255 : Int32)) <<< ((8 : Int32) &&& 31))) ||| (x3 &&& (255 : Int32)))), .val (.int (0 : Int32))] [(.int x2)])
      by_cases hc104 : x2 < (0 : Int32)
      · skip
        refine Goes.go (fun _ => XS.ifNo S.here B.x rfl (B.d d_method_2_104) rfl ((if0 _ _).trans (tlt hc104).2.1)) ?_
        show Goes _ _ _ _ T (mkF me_ 107 #[.val (.ref a0), .val (.int p1), .val (.int p2), .val (.int p3), .val (.int x0), .val (.int x1), .val (.int x2), .val (.int x3), .val (.int (((((x0 &&& (255 : Int32)) <<< ((24 : Int32) &&& 31)) ||| ((x1 &&& (255 : Int32)) <<< ((16 : Int32) &&& 31))) ||| ((x2 &&& (255 : Int32)) <<< ((8 : Int32) &&& 31))) ||| (x3 &&& (255 : Int32)))), .val (.int (0 : Int32))] [])
        refine Goes.go (fun _ => XS.iload S.here B.x rfl (B.d d_method_2_107) rfl) ?_
        show Goes _ _ _ _ T (mkF me_ 109 #[.val (.ref a0), .val (.int p1), .val (.int p2), .val (.int p3), .val (.int x0), .val (.int x1), .val (.int x2), .val (.int x3), .val (.int (((((x0 &&& (255 : Int32)) <<< ((24 : Int32) &&& 31)) ||| ((x1 &&& (255 : Int32)) <<< ((16 : Int32) &&& 31))) ||| ((x2 &&& (255 : Int32)) <<< ((8 : Int32) &&& 31))) ||| (x3 &&& (255 : Int32)))), .val (.int (0 : Int32))] [(.int (0 : Int32))])
        refine Goes.ldcI S B (w15 hw) d_method_2_109 ?_
        show Goes _ _ _ _ T (mkF me_ 111 #[.val (.ref a0), .val (.int p1), .val (.int p2), .val (.int p3), .val (.int x0), .val (.int x1), .val (.int x2), .val (.int x3), .val (.int (((((x0 &&& (255 : Int32)) <<< ((24 : Int32) &&& 31)) ||| ((x1 &&& (255 : Int32)) <<< ((16 : Int32) &&& 31))) ||| ((x2 &&& (255 : Int32)) <<< ((8 : Int32) &&& 31))) ||| (x3 &&& (255 : Int32)))), .val (.int (0 : Int32))] [(.int (-65536 : Int32)), (.int (0 : Int32))])
        refine Goes.go (fun _ => XS.ior S.here B.x rfl (B.d d_method_2_111) rfl) ?_
        show Goes _ _ _ _ T (mkF me_ 112 #[.val (.ref a0), .val (.int p1), .val (.int p2), .val (.int p3), .val (.int x0), .val (.int x1), .val (.int x2), .val (.int x3), .val (.int (((((x0 &&& (255 : Int32)) <<< ((24 : Int32) &&& 31)) ||| ((x1 &&& (255 : Int32)) <<< ((16 : Int32) &&& 31))) ||| ((x2 &&& (255 : Int32)) <<< ((8 : Int32) &&& 31))) ||| (x3 &&& (255 : Int32)))), .val (.int (0 : Int32))] [(.int ((0 : Int32) ||| (-65536 : Int32)))])
        refine Goes.go (fun _ => XS.istore S.here B.x rfl (B.d d_method_2_112) rfl (l' := #[.val (.ref a0), .val (.int p1), .val (.int p2), .val (.int p3), .val (.int x0), .val (.int x1), .val (.int x2), .val (.int x3), .val (.int (((((x0 &&& (255 : Int32)) <<< ((24 : Int32) &&& 31)) ||| ((x1 &&& (255 : Int32)) <<< ((16 : Int32) &&& 31))) ||| ((x2 &&& (255 : Int32)) <<< ((8 : Int32) &&& 31))) ||| (x3 &&& (255 : Int32)))), .val (.int ((0 : Int32) ||| (-65536 : Int32)))]) rfl) ?_
        show Goes _ _ _ _ T (mkF me_ 114 #[.val (.ref a0), .val (.int p1), .val (.int p2), .val (.int p3), .val (.int x0), .val (.int x1), .val (.int x2), .val (.int x3), .val (.int (((((x0 &&& (255 : Int32)) <<< ((24 : Int32) &&& 31)) ||| ((x1 &&& (255 : Int32)) <<< ((16 : Int32) &&& 31))) ||| ((x2 &&& (255 : Int32)) <<< ((8 : Int32) &&& 31))) ||| (x3 &&& (255 : Int32)))), .val (.int ((0 : Int32) ||| (-65536 : Int32)))] [])
        refine Goes.go (fun _ => XS.iload S.here B.x rfl (B.d d_method_2_114) rfl) ?_
        show Goes _ _ _ _ T (mkF me_ 116 #[.val (.ref a0), .val (.int p1), .val (.int p2), .val (.int p3), .val (.int x0), .val (.int x1), .val (.int x2), .val (.int x3), .val (.int (((((x0 &&& (255 : Int32)) <<< ((24 : Int32) &&& 31)) ||| ((x1 &&& (255 : Int32)) <<< ((16 : Int32) &&& 31))) ||| ((x2 &&& (255 : Int32)) <<< ((8 : Int32) &&& 31))) ||| (x3 &&& (255 : Int32)))), .val (.int ((0 : Int32) ||| (-65536 : Int32)))] [(.int x3)])
        by_cases hc116 : x3 < (0 : Int32)
        · skip
          refine Goes.go (fun _ => XS.ifNo S.here B.x rfl (B.d d_method_2_116) rfl ((if0 _ _).trans (tlt hc116).2.1)) ?_
          show Goes _ _ _ _ T (mkF me_ 119 #[.val (.ref a0), .val (.int p1), .val (.int p2), .val (.int p3), .val (.int x0), .val (.int x1), .val (.int x2), .val (.int x3), .val (.int (((((x0 &&& (255 : Int32)) <<< ((24 : Int32) &&& 31)) ||| ((x1 &&& (255 : Int32)) <<< ((16 : Int32) &&& 31))) ||| ((x2 &&& (255 : Int32)) <<< ((8 : Int32) &&& 31))) ||| (x3 &&& (255 : Int32)))), .val (.int ((0 : Int32) ||| (-65536 : Int32)))] [])
          refine Goes.go (fun _ => XS.iload S.here B.x rfl (B.d d_method_2_119) rfl) ?_
          show Goes _ _ _ _ T (mkF me_ 121 #[.val (.ref a0), .val (.int p1), .val (.int p2), .val (.int p3), .val (.int x0), .val (.int x1), .val (.int x2), .val (.int x3), .val (.int (((((x0 &&& (255 : Int32)) <<< ((24 : Int32) &&& 31)) ||| ((x1 &&& (255 : Int32)) <<< ((16 : Int32) &&& 31))) ||| ((x2 &&& (255 : Int32)) <<< ((8 : Int32) &&& 31))) ||| (x3 &&& (255 : Int32)))), .val (.int ((0 : Int32) ||| (-65536 : Int32)))] [(.int ((0 : Int32) ||| (-65536 : Int32)))])
          refine Goes.go (fun _ => XS.sipush S.here B.x rfl (B.d d_method_2_121)) ?_
          show Goes _ _ _ _ T (mkF me_ 124 #[.val (.ref a0), .val (.int p1), .val (.int p2), .val (.int p3), .val (.int x0), .val (.int x1), .val (.int x2), .val (.int x3), .val (.int (((((x0 &&& (255 : Int32)) <<< ((24 : Int32) &&& 31)) ||| ((x1 &&& (255 : Int32)) <<< ((16 : Int32) &&& 31))) ||| ((x2 &&& (255 : Int32)) <<< ((8 : Int32) &&& 31))) ||| (x3 &&& (255 : Int32)))), .val (.int ((0 : Int32) ||| (-65536 : Int32)))] [(.int (-256 : Int32)), (.int ((0 : Int32) ||| (-65536 : Int32)))])
          refine Goes.go (fun _ => XS.ior S.here B.x rfl (B.d d_method_2_124) rfl) ?_
          show Goes _ _ _ _ T (mkF me_ 125 #[.val (.ref a0), .val (.int p1), .val (.int p2), .val (.int p3), .val (.int x0), .val (.int x1), .val (.int x2), .val (.int x3), .val (.int (((((x0 &&& (255 : Int32)) <<< ((24 : Int32) &&& 31)) ||| ((x1 &&& (255 : Int32)) <<< ((16 : Int32) &&& 31))) ||| ((x2 &&& (255 : Int32)) <<< ((8 : Int32) &&& 31))) ||| (x3 &&& (255 : Int32)))), .val (.int ((0 : Int32) ||| (-65536 : Int32)))] [(.int (((0 : Int32) ||| (-65536 : Int32)) ||| (-256 : Int32)))])
          refine Goes.go (fun _ => XS.istore S.here B.x rfl (B.d d_method_2_125) rfl (l' := #[.val (.ref a0), .val (.int p1), .val (.int p2), .val (.int p3), .val (.int x0), .val (.int x1), .val (.int x2), .val (.int x3), .val (.int (((((x0 &&& (255 : Int32)) <<< ((24 : Int32) &&& 31)) ||| ((x1 &&& (255 : Int32)) <<< ((16 : Int32) &&& 31))) ||| ((x2 &&& (255 : Int32)) <<< ((8 : Int32) &&& 31))) ||| (x3 &&& (255 : Int32)))), .val (.int (((0 : Int32) ||| (-65536 : Int32)) ||| (-256 : Int32)))]) rfl) ?_
          show Goes _ _ _ _ T (mkF me_ 127 #[.val (.ref a0), .val (.int p1), .val (.int p2), .val (.int p3), .val (.int x0), .val (.int x1), .val (.int x2), .val (.int x3), .val (.int (((((x0 &&& (255 : Int32)) <<< ((24 : Int32) &&& 31)) ||| ((x1 &&& (255 : Int32)) <<< ((16 : Int32) &&& 31))) ||| ((x2 &&& (255 : Int32)) <<< ((8 : Int32) &&& 31))) ||| (x3 &&& (255 : Int32)))), .val (.int (((0 : Int32) ||| (-65536 : Int32)) ||| (-256 : Int32)))] [])
          refine Goes.go (fun _ => XS.iload S.here B.x rfl (B.d d_method_2_127) rfl) ?_
          show Goes _ _ _ _ T (mkF me_ 129 #[.val (.ref a0), .val (.int p1), .val (.int p2), .val (.int p3), .val (.int x0), .val (.int x1), .val (.int x2), .val (.int x3), .val (.int (((((x0 &&& (255 : Int32)) <<< ((24 : Int32) &&& 31)) ||| ((x1 &&& (255 : Int32)) <<< ((16 : Int32) &&& 31))) ||| ((x2 &&& (255 : Int32)) <<< ((8 : Int32) &&& 31))) ||| (x3 &&& (255 : Int32)))), .val (.int (((0 : Int32) ||| (-65536 : Int32)) ||| (-256 : Int32)))] [(.int (((((x0 &&& (255 : Int32)) <<< ((24 : Int32) &&& 31)) ||| ((x1 &&& (255 : Int32)) <<< ((16 : Int32) &&& 31))) ||| ((x2 &&& (255 : Int32)) <<< ((8 : Int32) &&& 31))) ||| (x3 &&& (255 : Int32))))])
          refine Goes.go (fun _ => XS.iload S.here B.x rfl (B.d d_method_2_129) rfl) ?_
          show Goes _ _ _ _ T (mkF me_ 131 #[.val (.ref a0), .val (.int p1), .val (.int p2), .val (.int p3), .val (.int x0), .val (.int x1), .val (.int x2), .val (.int x3), .val (.int (((((x0 &&& (255 : Int32)) <<< ((24 : Int32) &&& 31)) ||| ((x1 &&& (255 : Int32)) <<< ((16 : Int32) &&& 31))) ||| ((x2 &&& (255 : Int32)) <<< ((8 : Int32) &&& 31))) ||| (x3 &&& (255 : Int32)))), .val (.int (((0 : Int32) ||| (-65536 : Int32)) ||| (-256 : Int32)))] [(.int (((0 : Int32) ||| (-65536 : Int32)) ||| (-256 : Int32))), (.int (((((x0 &&& (255 : Int32)) <<< ((24 : Int32) &&& 31)) ||| ((x1 &&& (255 : Int32)) <<< ((16 : Int32) &&& 31))) ||| ((x2 &&& (255 : Int32)) <<< ((8 : Int32) &&& 31))) ||| (x3 &&& (255 : Int32))))])
          refine Goes.go (fun _ => XS.ior S.here B.x rfl (B.d d_method_2_131) rfl) ?_
          show Goes _ _ _ _ T (mkF me_ 132 #[.val (.ref a0), .val (.int p1), .val (.int p2), .val (.int p3), .val (.int x0), .val (.int x1), .val (.int x2), .val (.int x3), .val (.int (((((x0 &&& (255 : Int32)) <<< ((24 : Int32) &&& 31)) ||| ((x1 &&& (255 : Int32)) <<< ((16 : Int32) &&& 31))) ||| ((x2 &&& (255 : Int32)) <<< ((8 : Int32) &&& 31))) ||| (x3 &&& (255 : Int32)))), .val (.int (((0 : Int32) ||| (-65536 : Int32)) ||| (-256 : Int32)))] [(.int ((((((x0 &&& (255 : Int32)) <<< ((24 : Int32) &&& 31)) ||| ((x1 &&& (255 : Int32)) <<< ((16 : Int32) &&& 31))) ||| ((x2 &&& (255 : Int32)) <<< ((8 : Int32) &&& 31))) ||| (x3 &&& (255 : Int32))) ||| (((0 : Int32) ||| (-65536 : Int32)) ||| (-256 : Int32))))])
          refine Goes.retI S B d_method_2_132 (by decide) (by decide) ?_
          exact ⟨(by unfold own_ex own_m own_u; first | (rw [if_pos hc81]; done) | (rw [if_neg hc81]; simp only [hc92, hc104, hc116, if_true, if_false]; done) | (rw [if_neg hc81]; simp only [hc92, hc104, hc116, if_true, if_false]; rfl)), rfl⟩
        · skip
          refine Goes.go (fun _ => XS.ifYes S.here B.x rfl (pc0 := 116) (pc' := 127) rfl (B.d d_method_2_116) rfl ((if0 _ _).trans (flt hc116).2.1) (by decide) (by decide)) ?_
          show Goes _ _ _ _ T (mkF me_ 127 #[.val (.ref a0), .val (.int p1), .val (.int p2), .val (.int p3), .val (.int x0), .val (.int x1), .val (.int x2), .val (.int x3), .val (.int (((((x0 &&& (255 : Int32)) <<< ((24 : Int32) &&& 31)) ||| ((x1 &&& (255 : Int32)) <<< ((16 : Int32) &&& 31))) ||| ((x2 &&& (255 : Int32)) <<< ((8 : Int32) &&& 31))) ||| (x3 &&& (255 : Int32)))), .val (.int ((0 : Int32) ||| (-65536 : Int32)))] [])
          refine Goes.go (fun _ => XS.iload S.here B.x rfl (B.d d_method_2_127) rfl) ?_
          show Goes _ _ _ _ T (mkF me_ 129 #[.val (.ref a0), .val (.int p1), .val (.int p2), .val (.int p3), .val (.int x0), .val (.int x1), .val (.int x2), .val (.int x3), .val (.int (((((x0 &&& (255 : Int32)) <<< ((24 : Int32) &&& 31)) ||| ((x1 &&& (255 : Int32)) <<< ((16 : Int32) &&& 31))) ||| ((x2 &&& (255 : Int32)) <<< ((8 : Int32) &&& 31))) ||| (x3 &&& (255 : Int32)))), .val (.int ((0 : Int32) ||| (-65536 : Int32)))] [(.int (((((x0 &&& (255 : Int32)) <<< ((24 : Int32) &&& 31)) ||| ((x1 &&& (255 : Int32)) <<< ((16 : Int32) &&& 31))) ||| ((x2 &&& (255 : Int32)) <<< ((8 : Int32) &&& 31))) ||| (x3 &&& (255 : Int32))))])
          refine Goes.go (fun _ => XS.iload S.here B.x rfl (B.d d_method_2_129) rfl) ?_
          show Goes _ _ _ _ T (mkF me_ 131 #[.val (.ref a0), .val (.int p1), .val (.int p2), .val (.int p3), .val (.int x0), .val (.int x1), .val (.int x2), .val (.int x3), .val (.int (((((x0 &&& (255 : Int32)) <<< ((24 : Int32) &&& 31)) ||| ((x1 &&& (255 : Int32)) <<< ((16 : Int32) &&& 31))) ||| ((x2 &&& (255 : Int32)) <<< ((8 : Int32) &&& 31))) ||| (x3 &&& (255 : Int32)))), .val (.int ((0 : Int32) ||| (-65536 : Int32)))] [(.int ((0 : Int32) ||| (-65536 : Int32))), (.int (((((x0 &&& (255 : Int32)) <<< ((24 : Int32) &&& 31)) ||| ((x1 &&& (255 : Int32)) <<< ((16 : Int32) &&& 31))) ||| ((x2 &&& (255 : Int32)) <<< ((8 : Int32) &&& 31))) ||| (x3 &&& (255 : Int32))))])
          refine Goes.go (fun _ => XS.ior S.here B.x rfl (B.d d_method_2_131) rfl) ?_
          show Goes _ _ _ _ T (mkF me_ 132 #[.val (.ref a0), .val (.int p1), .val (.int p2), .val (.int p3), .val (.int x0), .val (.int x1), .val (.int x2), .val (.int x3), .val (.int (((((x0 &&& (255 : Int32)) <<< ((24 : Int32) &&& 31)) ||| ((x1 &&& (255 : Int32)) <<< ((16 : Int32) &&& 31))) ||| ((x2 &&& (255 : Int32)) <<< ((8 : Int32) &&& 31))) ||| (x3 &&& (255 : Int32)))), .val (.int ((0 : Int32) ||| (-65536 : Int32)))] [(.int ((((((x0 &&& (255 : Int32)) <<< ((24 : Int32) &&& 31)) ||| ((x1 &&& (255 : Int32)) <<< ((16 : Int32) &&& 31))) ||| ((x2 &&& (255 : Int32)) <<< ((8 : Int32) &&& 31))) ||| (x3 &&& (255 : Int32))) ||| ((0 : Int32) ||| (-65536 : Int32))))])
          refine Goes.retI S B d_method_2_132 (by decide) (by decide) ?_
          exact ⟨(by unfold own_ex own_m own_u; first | (rw [if_pos hc81]; done) | (rw [if_neg hc81]; simp only [hc92, hc104, hc116, if_true, if_false]; done) | (rw [if_neg hc81]; simp only [hc92, hc104, hc116, if_true, if_false]; rfl)), rfl⟩
      · skip
        refine Goes.go (fun _ => XS.ifYes S.here B.x rfl (pc0 := 104) (pc' := 114) rfl (B.d d_method_2_104) rfl ((if0 _ _).trans (flt hc104).2.1) (by decide) (by decide)) ?_
        show Goes _ _ _ _ T (mkF me_ 114 #[.val (.ref a0), .val (.int p1), .val (.int p2), .val (.int p3), .val (.int x0), .val (.int x1), .val (.int x2), .val (.int x3), .val (.int (((((x0 &&& (255 : Int32)) <<< ((24 : Int32) &&& 31)) ||| ((x1 &&& (255 : Int32)) <<< ((16 : Int32) &&& 31))) ||| ((x2 &&& (255 : Int32)) <<< ((8 : Int32) &&& 31))) ||| (x3 &&& (255 : Int32)))), .val (.int (0 : Int32))] [])
        refine Goes.go (fun _ => XS.iload S.here B.x rfl (B.d d_method_2_114) rfl) ?_
        show Goes _ _ _ _ T (mkF me_ 116 #[.val (.ref a0), .val (.int p1), .val (.int p2), .val (.int p3), .val (.int x0), .val (.int x1), .val (.int x2), .val (.int x3), .val (.int (((((x0 &&& (255 : Int32)) <<< ((24 : Int32) &&& 31)) ||| ((x1 &&& (255 : Int32)) <<< ((16 : Int32) &&& 31))) ||| ((x2 &&& (255 : Int32)) <<< ((8 : Int32) &&& 31))) ||| (x3 &&& (255 : Int32)))), .val (.int (0 : Int32))] [(.int x3)])
        by_cases hc116 : x3 < (0 : Int32)
        · skip
          refine Goes.go (fun _ => XS.ifNo S.here B.x rfl (B.d d_method_2_116) rfl ((if0 _ _).trans (tlt hc116).2.1)) ?_
          show Goes _ _ _ _ T (mkF me_ 119 #[.val (.ref a0), .val (.int p1), .val (.int p2), .val (.int p3), .val (.int x0), .val (.int x1), .val (.int x2), .val (.int x3), .val (.int (((((x0 &&& (255 : Int32)) <<< ((24 : Int32) &&& 31)) ||| ((x1 &&& (255 : Int32)) <<< ((16 : Int32) &&& 31))) ||| ((x2 &&& (255 : Int32)) <<< ((8 : Int32) &&& 31))) ||| (x3 &&& (255 : Int32)))), .val (.int (0 : Int32))] [])
          refine Goes.go (fun _ => XS.iload S.here B.x rfl (B.d d_method_2_119) rfl) ?_
          show Goes _ _ _ _ T (mkF me_ 121 #[.val (.ref a0), .val (.int p1), .val (.int p2), .val (.int p3), .val (.int x0), .val (.int x1), .val (.int x2), .val (.int x3), .val (.int (((((x0 &&& (255 : Int32)) <<< ((24 : Int32) &&& 31)) ||| ((x1 &&& (255 : Int32)) <<< ((16 : Int32) &&& 31))) ||| ((x2 &&& (255 : Int32)) <<< ((8 : Int32) &&& 31))) ||| (x3 &&& (255 : Int32)))), .val (.int (0 : Int32))] [(.int (0 : Int32))])
          refine Goes.go (fun _ => XS.sipush S.here B.x rfl (B.d d_method_2_121)) ?_
          show Goes _ _ _ _ T (mkF me_ 124 #[.val (.ref a0), .val (.int p1), .val (.int p2), .val (.int p3), .val (.int x0), .val (.int x1), .val (.int x2), .val (.int x3), .val (.int (((((x0 &&& (255 : Int32)) <<< ((24 : Int32) &&& 31)) ||| ((x1 &&& (255 : Int32)) <<< ((16 : Int32) &&& 31))) ||| ((x2 &&& (255 : Int32)) <<< ((8 : Int32) &&& 31))) ||| (x3 &&& (255 : Int32)))), .val (.int (0 : Int32))] [(.int (-256 : Int32)), (.int (0 : Int32))])
          refine Goes.go (fun _ => XS.ior S.here B.x rfl (B.d d_method_2_124) rfl) ?_
          show Goes _ _ _ _ T (mkF me_ 125 #[.val (.ref a0), .val (.int p1), .val (.int p2), .val (.int p3), .val (.int x0), .val (.int x1), .val (.int x2), .val (.int x3), .val (.int (((((x0 &&& (255 : Int32)) <<< ((24 : Int32) &&& 31)) ||| ((x1 &&& (255 : Int32)) <<< ((16 : Int32) &&& 31))) ||| ((x2 &&& (255 : Int32)) <<< ((8 : Int32) &&& 31))) ||| (x3 &&& (255 : Int32)))), .val (.int (0 : Int32))] [(.int ((0 : Int32) ||| (-256 : Int32)))])
          refine Goes.go (fun _ => XS.istore S.here B.x rfl (B.d d_method_2_125) rfl (l' := #[.val (.ref a0), .val (.int p1), .val (.int p2), .val (.int p3), .val (.int x0), .val (.int x1), .val (.int x2), .val (.int x3), .val (.int (((((x0 &&& (255 : Int32)) <<< ((24 : Int32) &&& 31)) ||| ((x1 &&& (255 : Int32)) <<< ((16 : Int32) &&& 31))) ||| ((x2 &&& (255 : Int32)) <<< ((8 : Int32) &&& 31))) ||| (x3 &&& (255 : Int32)))), .val (.int ((0 : Int32) ||| (-256 : Int32)))]) rfl) ?_
          show Goes _ _ _ _ T (mkF me_ 127 #[.val (.ref a0), .val (.int p1), .val (.int p2), .val (.int p3), .val (.int x0), .val (.int x1), .val (.int x2), .val (.int x3), .val (.int (((((x0 &&& (255 : Int32)) <<< ((24 : Int32) &&& 31)) ||| ((x1 &&& (255 : Int32)) <<< ((16 : Int32) &&& 31))) ||| ((x2 &&& (255 : Int32)) <<< ((8 : Int32) &&& 31))) ||| (x3 &&& (255 : Int32)))), .val (.int ((0 : Int32) ||| (-256 : Int32)))] [])
          refine Goes.go (fun _ => XS.iload S.here B.x rfl (B.d d_method_2_127) rfl) ?_
          show Goes _ _ _ _ T (mkF me_ 129 #[.val (.ref a0), .val (.int p1), .val (.int p2), .val (.int p3), .val (.int x0), .val (.int x1), .val (.int x2), .val (.int x3), .val (.int (((((x0 &&& (255 : Int32)) <<< ((24 : Int32) &&& 31)) ||| ((x1 &&& (255 : Int32)) <<< ((16 : Int32) &&& 31))) ||| ((x2 &&& (255 : Int32)) <<< ((8 : Int32) &&& 31))) ||| (x3 &&& (255 : Int32)))), .val (.int ((0 : Int32) ||| (-256 : Int32)))] [(.int (((((x0 &&& (255 : Int32)) <<< ((24 : Int32) &&& 31)) ||| ((x1 &&& (255 : Int32)) <<< ((16 : Int32) &&& 31))) ||| ((x2 &&& (255 : Int32)) <<< ((8 : Int32) &&& 31))) ||| (x3 &&& (255 : Int32))))])
          refine Goes.go (fun _ => XS.iload S.here B.x rfl (B.d d_method_2_129) rfl) ?_
          show Goes _ _ _ _ T (mkF me_ 131 #[.val (.ref a0), .val (.int p1), .val (.int p2), .val (.int p3), .val (.int x0), .val (.int x1), .val (.int x2), .val (.int x3), .val (.int (((((x0 &&& (255 : Int32)) <<< ((24 : Int32) &&& 31)) ||| ((x1 &&& (255 : Int32)) <<< ((16 : Int32) &&& 31))) ||| ((x2 &&& (255 : Int32)) <<< ((8 : Int32) &&& 31))) ||| (x3 &&& (255 : Int32)))), .val (.int ((0 : Int32) ||| (-256 : Int32)))] [(.int ((0 : Int32) ||| (-256 : Int32))), (.int (((((x0 &&& (255 : Int32)) <<< ((24 : Int32) &&& 31)) ||| ((x1 &&& (255 : Int32)) <<< ((16 : Int32) &&& 31))) ||| ((x2 &&& (255 : Int32)) <<< ((8 : Int32) &&& 31))) ||| (x3 &&& (255 : Int32))))])
          refine Goes.go (fun _ => XS.ior S.here B.x rfl (B.d d_method_2_131) rfl) ?_
          show Goes _ _ _ _ T (mkF me_ 132 #[.val (.ref a0), .val (.int p1), .val (.int p2), .val (.int p3), .val (.int x0), .val (.int x1), .val (.int x2), .val (.int x3), .val (.int (((((x0 &&& (255 : Int32)) <<< ((24 : Int32) &&& 31)) ||| ((x1 &&& (255 : Int32)) <<< ((16 : Int32) &&& 31))) ||| ((x2 &&& (255 : Int32)) <<< ((8 : Int32) &&& 31))) ||| (x3 &&& (255 : Int32)))), .val (.int ((0 : Int32) ||| (-256 : Int32)))] [(.int ((((((x0 &&& (255 : Int32)) <<< ((24 : Int32) &&& 31)) ||| ((x1 &&& (255 : Int32)) <<< ((16 : Int32) &&& 31))) ||| ((x2 &&& (255 : Int32)) <<< ((8 : Int32) &&& 31))) ||| (x3 &&& (255 : Int32))) ||| ((0 : Int32) ||| (-256 : Int32))))])
          refine Goes.retI S B d_method_2_132 (by decide) (by decide) ?_
          exact ⟨(by unfold own_ex own_m own_u; first | (rw [if_pos hc81]; done) | (rw [if_neg hc81]; simp only [hc92, hc104, hc116, if_true, if_false]; done) | (rw [if_neg hc81]; simp only [hc92, hc104, hc116, if_true, if_false]; rfl)), rfl⟩
        · skip
          refine Goes.go (fun _ => XS.ifYes S.here B.x rfl (pc0 := 116) (pc' := 127) rfl (B.d d_method_2_116) rfl ((if0 _ _).trans (flt hc116).2.1) (by decide) (by decide)) ?_
          show Goes _ _ _ _ T (mkF me_ 127 #[.val (.ref a0), .val (.int p1), .val (.int p2), .val (.int p3), .val (.int x0), .val (.int x1), .val (.int x2), .val (.int x3), .val (.int (((((x0 &&& (255 : Int32)) <<< ((24 : Int32) &&& 31)) ||| ((x1 &&& (255 : Int32)) <<< ((16 : Int32) &&& 31))) ||| ((x2 &&& (255 : Int32)) <<< ((8 : Int32) &&& 31))) ||| (x3 &&& (255 : Int32)))), .val (.int (0 : Int32))] [])
          refine Goes.go (fun _ => XS.iload S.here B.x rfl (B.d d_method_2_127) rfl) ?_
          show Goes _ _ _ _ T (mkF me_ 129 #[.val (.ref a0), .val (.int p1), .val (.int p2), .val (.int p3), .val (.int x0), .val (.int x1), .val (.int x2), .val (.int x3), .val (.int (((((x0 &&& (255 : Int32)) <<< ((24 : Int32) &&& 31)) ||| ((x1 &&& (255 : Int32)) <<< ((16 : Int32) &&& 31))) ||| ((x2 &&& (255 : Int32)) <<< ((8 : Int32) &&& 31))) ||| (x3 &&& (255 : Int32)))), .val (.int (0 : Int32))] [(.int (((((x0 &&& (255 : Int32)) <<< ((24 : Int32) &&& 31)) ||| ((x1 &&& (255 : Int32)) <<< ((16 : Int32) &&& 31))) ||| ((x2 &&& (255 : Int32)) <<< ((8 : Int32) &&& 31))) ||| (x3 &&& (255 : Int32))))])
          refine Goes.go (fun _ => XS.iload S.here B.x rfl (B.d d_method_2_129) rfl) ?_
          show Goes _ _ _ _ T (mkF me_ 131 #[.val (.ref a0), .val (.int p1), .val (.int p2), .val (.int p3), .val (.int x0), .val (.int x1), .val (.int x2), .val (.int x3), .val (.int (((((x0 &&& (255 : Int32)) <<< ((24 : Int32) &&& 31)) ||| ((x1 &&& (255 : Int32)) <<< ((16 : Int32) &&& 31))) ||| ((x2 &&& (255 : Int32)) <<< ((8 : Int32) &&& 31))) ||| (x3 &&& (255 : Int32)))), .val (.int (0 : Int32))] [(.int (0 : Int32)), (.int (((((x0 &&& (255 : Int32)) <<< ((24 : Int32) &&& 31)) ||| ((x1 &&& (255 : Int32)) <<< ((16 : Int32) &&& 31))) ||| ((x2 &&& (255 : Int32)) <<< ((8 : Int32) &&& 31))) ||| (x3 &&& (255 : Int32))))])
          refine Goes.go (fun _ => XS.ior S.here B.x rfl (B.d d_method_2_131) rfl) ?_
          show Goes _ _ _ _ T (mkF me_ 132 #[.val (.ref a0), .val (.int p1), .val (.int p2), .val (.int p3), .val (.int x0), .val (.int x1), .val (.int x2), .val (.int x3), .val (.int (((((x0 &&& (255 : Int32)) <<< ((24 : Int32) &&& 31)) ||| ((x1 &&& (255 : Int32)) <<< ((16 : Int32) &&& 31))) ||| ((x2 &&& (255 : Int32)) <<< ((8 : Int32) &&& 31))) ||| (x3 &&& (255 : Int32)))), .val (.int (0 : Int32))] [(.int ((((((x0 &&& (255 : Int32)) <<< ((24 : Int32) &&& 31)) ||| ((x1 &&& (255 : Int32)) <<< ((16 : Int32) &&& 31))) ||| ((x2 &&& (255 : Int32)) <<< ((8 : Int32) &&& 31))) ||| (x3 &&& (255 : Int32))) ||| (0 : Int32)))])
          refine Goes.retI S B d_method_2_132 (by decide) (by decide) ?_
          exact ⟨(by unfold own_ex own_m own_u; first | (rw [if_pos hc81]; done) | (rw [if_neg hc81]; simp only [hc92, hc104, hc116, if_true, if_false]; done) | (rw [if_neg hc81]; simp only [hc92, hc104, hc116, if_true, if_false]; rfl)), rfl⟩
theorem ef_rm_cws (m : MethodId) (a0 : Addr) (p1 : Int32) (p2 : Int32) (p3 : Int32) : entryFrame m #[(.ref a0), (.int p1), (.int p2), (.int p3)] 6 = mkF m 0 #[.val (.ref a0), .val (.int p1), .val (.int p2), .val (.int p3), .unset, .unset] [] := by first | (simp [entryFrame, mkF, argsToLocals, Value.category]; done) | rfl
def Q_rm_cws (Z : State) (a0 : Addr) (p1 : Int32) (p2 : Int32) (p3 : Int32) (f : Nat → Int32) (h0 : Heap) (n0 : Nat) (v : Option Value) (h : Heap) : Prop := ∃ (r : Addr) (f2 : Nat → Int32), v = some (.ref r) ∧ h0.size ≤ r ∧ Keep h0 h [] ∧ Ary Z h r .int p2.toNatClampNeg (fun i => (.int (f2 i))) ∧ ((0 : Int32) < p2 → f2 0 = (own_cw p3 (f ((((4 : Int32) * (0 : Int32)) + (0 : Int32)) % p1).toNatClampNeg) (f ((((4 : Int32) * (0 : Int32)) + (1 : Int32)) % p1).toNatClampNeg) (f ((((4 : Int32) * (0 : Int32)) + (2 : Int32)) % p1).toNatClampNeg) (f ((((4 : Int32) * (0 : Int32)) + (3 : Int32)) % p1).toNatClampNeg))) ∧ ((1 : Int32) < p2 → f2 1 = (own_cw p3 (f ((((4 : Int32) * (1 : Int32)) + (0 : Int32)) % p1).toNatClampNeg) (f ((((4 : Int32) * (1 : Int32)) + (1 : Int32)) % p1).toNatClampNeg) (f ((((4 : Int32) * (1 : Int32)) + (2 : Int32)) % p1).toNatClampNeg) (f ((((4 : Int32) * (1 : Int32)) + (3 : Int32)) % p1).toNatClampNeg))) ∧ ((2 : Int32) < p2 → f2 2 = (own_cw p3 (f ((((4 : Int32) * (2 : Int32)) + (0 : Int32)) % p1).toNatClampNeg) (f ((((4 : Int32) * (2 : Int32)) + (1 : Int32)) % p1).toNatClampNeg) (f ((((4 : Int32) * (2 : Int32)) + (2 : Int32)) % p1).toNatClampNeg) (f ((((4 : Int32) * (2 : Int32)) + (3 : Int32)) % p1).toNatClampNeg)))
set_option maxRecDepth 65536 in
set_option maxHeartbeats 40000000 in
theorem rm_cws (l : Launch) (Z : State) (aw : Array Value) (hw : ∀ d ∈ tables_1, d.before aw Z = true) (a0 : Addr) (p1 : Int32) (p2 : Int32) (p3 : Int32) (f : Nat → Int32) (h0 : Heap) (n0 : Nat) (A_a0 : Ary Z h0 a0 .byte 8 (fun i => (.int (f i)))) (hz : p1 ≠ 0) (hcnt : p2 = 0 ∨ p2 = 1 ∨ p2 = 2 ∨ p2 = 3) (hix : ∀ k j : Int32, 0 ≤ k.toInt → k.toInt ≤ 2 → 0 ≤ j.toInt → j.toInt ≤ 3 → ¬ ((((4 : Int32) * k) + j) % p1) < 0 ∧ ((((4 : Int32) * k) + j) % p1).toNatClampNeg < 8) :
    Con l Z (⟨"com/example/orphean/orphean/Blowfish", "cyclicWords", "([BIIZ)[I"⟩ : MethodName) prog_9_method_4_code 6 (some (.array .int)) ({ frames := 1, cells := 1, slots := 3, locals := 20 } : Room) #[(.ref a0), (.int p1), (.int p2), (.int p3)] h0 n0 (Q_rm_cws Z a0 p1 p2 p3 f h0 n0) := by
  refine Con.body (plainFor_of_name pn_0) ?_
  intro pr_ en_ st_ me_ below meth co_ T B S
  refine Goes.cast (ef_rm_cws me_ a0 p1 p2 p3) ?_
  have K : Keep h0 h0 [] := Keep.refl _ _
  rcases hcnt with rfl | rfl | rfl | rfl
  · skip
    show Goes _ _ _ _ T (mkF me_ 0 #[.val (.ref a0), .val (.int p1), .val (.int (0 : Int32)), .val (.int p3), .unset, .unset] [])
    refine Goes.go (fun _ => XS.iloadN S.here B.x rfl (B.d d_prog_9_method_4_0) rfl) ?_
    show Goes _ _ _ _ T (mkF me_ 1 #[.val (.ref a0), .val (.int p1), .val (.int (0 : Int32)), .val (.int p3), .unset, .unset] [(.int (0 : Int32))])
    refine Goes.newP (aty := .int) (cap := 0) S B (w6 hw) d_prog_9_method_4_1 (by decide) (by decide) (by decide) (by decide) (by decide) ?_
    intro T h b1 S X zb g_b1 A_b1
    have ne_a0__b1 : a0 ≠ b1 := Nat.ne_of_lt (Nat.lt_of_lt_of_le A_a0.lt (Nat.le_of_eq zb.symm))
    have z_b1 : h0.size ≤ b1 := Nat.le_trans K.1 (Nat.le_of_eq zb.symm)
    replace K := K.ext X
    replace A_a0 := A_a0.ext X
    replace A_b1 : Ary Z h b1 .int 0 (fun i => (.int ((fun _ => 0) i))) := A_b1
    show Goes _ _ _ _ T (mkF me_ 3 #[.val (.ref a0), .val (.int p1), .val (.int (0 : Int32)), .val (.int p3), .unset, .unset] [(.ref b1)])
    refine Goes.go (fun _ => XS.astore S.here B.x rfl (B.d d_prog_9_method_4_3) rfl rfl (l' := #[.val (.ref a0), .val (.int p1), .val (.int (0 : Int32)), .val (.int p3), .val (.ref b1), .unset]) rfl) ?_
    show Goes _ _ _ _ T (mkF me_ 5 #[.val (.ref a0), .val (.int p1), .val (.int (0 : Int32)), .val (.int p3), .val (.ref b1), .unset] [])
    refine Goes.go (fun _ => XS.iconst S.here B.x rfl (B.d d_prog_9_method_4_5)) ?_
    show Goes _ _ _ _ T (mkF me_ 6 #[.val (.ref a0), .val (.int p1), .val (.int (0 : Int32)), .val (.int p3), .val (.ref b1), .unset] [(.int (0 : Int32))])
    refine Goes.go (fun _ => XS.istore S.here B.x rfl (B.d d_prog_9_method_4_6) rfl (l' := #[.val (.ref a0), .val (.int p1), .val (.int (0 : Int32)), .val (.int p3), .val (.ref b1), .val (.int (0 : Int32))]) rfl) ?_
    show Goes _ _ _ _ T (mkF me_ 8 #[.val (.ref a0), .val (.int p1), .val (.int (0 : Int32)), .val (.int p3), .val (.ref b1), .val (.int (0 : Int32))] [])
    refine Goes.go (fun _ => XS.iload S.here B.x rfl (B.d d_prog_9_method_4_8) rfl) ?_
    show Goes _ _ _ _ T (mkF me_ 10 #[.val (.ref a0), .val (.int p1), .val (.int (0 : Int32)), .val (.int p3), .val (.ref b1), .val (.int (0 : Int32))] [(.int (0 : Int32))])
    refine Goes.go (fun _ => XS.iloadN S.here B.x rfl (B.d d_prog_9_method_4_10) rfl) ?_
    show Goes _ _ _ _ T (mkF me_ 11 #[.val (.ref a0), .val (.int p1), .val (.int (0 : Int32)), .val (.int p3), .val (.ref b1), .val (.int (0 : Int32))] [(.int (0 : Int32)), (.int (0 : Int32))])
    refine Goes.go (fun _ => XS.icmpYes S.here B.x rfl (pc0 := 11) (pc' := 33) rfl (B.d d_prog_9_method_4_11) rfl (by decide) (by decide) (by decide)) ?_
    show Goes _ _ _ _ T (mkF me_ 33 #[.val (.ref a0), .val (.int p1), .val (.int (0 : Int32)), .val (.int p3), .val (.ref b1), .val (.int (0 : Int32))] [])
    refine Goes.go (fun _ => XS.aload S.here B.x rfl (B.d d_prog_9_method_4_33) rfl rfl) ?_
    show Goes _ _ _ _ T (mkF me_ 35 #[.val (.ref a0), .val (.int p1), .val (.int (0 : Int32)), .val (.int p3), .val (.ref b1), .val (.int (0 : Int32))] [(.ref b1)])
    refine Goes.retA S B rfl d_prog_9_method_4_35 (by decide) (by decide) ?_
    exact ⟨b1, _, rfl, z_b1, K, A_b1, (fun q => by first | rfl | exact absurd q (by decide)), (fun q => by first | rfl | exact absurd q (by decide)), (fun q => by first | rfl | exact absurd q (by decide))⟩
  · skip
    show Goes _ _ _ _ T (mkF me_ 0 #[.val (.ref a0), .val (.int p1), .val (.int (1 : Int32)), .val (.int p3), .unset, .unset] [])
    refine Goes.go (fun _ => XS.iloadN S.here B.x rfl (B.d d_prog_9_method_4_0) rfl) ?_
    show Goes _ _ _ _ T (mkF me_ 1 #[.val (.ref a0), .val (.int p1), .val (.int (1 : Int32)), .val (.int p3), .unset, .unset] [(.int (1 : Int32))])
    refine Goes.newP (aty := .int) (cap := 1) S B (w6 hw) d_prog_9_method_4_1 (by decide) (by decide) (by decide) (by decide) (by decide) ?_
    intro T h b2 S X zb g_b2 A_b2
    have ne_a0__b2 : a0 ≠ b2 := Nat.ne_of_lt (Nat.lt_of_lt_of_le A_a0.lt (Nat.le_of_eq zb.symm))
    have z_b2 : h0.size ≤ b2 := Nat.le_trans K.1 (Nat.le_of_eq zb.symm)
    replace K := K.ext X
    replace A_a0 := A_a0.ext X
    replace A_b2 : Ary Z h b2 .int 1 (fun i => (.int ((fun _ => 0) i))) := A_b2
    show Goes _ _ _ _ T (mkF me_ 3 #[.val (.ref a0), .val (.int p1), .val (.int (1 : Int32)), .val (.int p3), .unset, .unset] [(.ref b2)])
    refine Goes.go (fun _ => XS.astore S.here B.x rfl (B.d d_prog_9_method_4_3) rfl rfl (l' := #[.val (.ref a0), .val (.int p1), .val (.int (1 : Int32)), .val (.int p3), .val (.ref b2), .unset]) rfl) ?_
    show Goes _ _ _ _ T (mkF me_ 5 #[.val (.ref a0), .val (.int p1), .val (.int (1 : Int32)), .val (.int p3), .val (.ref b2), .unset] [])
    refine Goes.go (fun _ => XS.iconst S.here B.x rfl (B.d d_prog_9_method_4_5)) ?_
    show Goes _ _ _ _ T (mkF me_ 6 #[.val (.ref a0), .val (.int p1), .val (.int (1 : Int32)), .val (.int p3), .val (.ref b2), .unset] [(.int (0 : Int32))])
    refine Goes.go (fun _ => XS.istore S.here B.x rfl (B.d d_prog_9_method_4_6) rfl (l' := #[.val (.ref a0), .val (.int p1), .val (.int (1 : Int32)), .val (.int p3), .val (.ref b2), .val (.int (0 : Int32))]) rfl) ?_
    show Goes _ _ _ _ T (mkF me_ 8 #[.val (.ref a0), .val (.int p1), .val (.int (1 : Int32)), .val (.int p3), .val (.ref b2), .val (.int (0 : Int32))] [])
    refine Goes.go (fun _ => XS.iload S.here B.x rfl (B.d d_prog_9_method_4_8) rfl) ?_
    show Goes _ _ _ _ T (mkF me_ 10 #[.val (.ref a0), .val (.int p1), .val (.int (1 : Int32)), .val (.int p3), .val (.ref b2), .val (.int (0 : Int32))] [(.int (0 : Int32))])
    refine Goes.go (fun _ => XS.iloadN S.here B.x rfl (B.d d_prog_9_method_4_10) rfl) ?_
    show Goes _ _ _ _ T (mkF me_ 11 #[.val (.ref a0), .val (.int p1), .val (.int (1 : Int32)), .val (.int p3), .val (.ref b2), .val (.int (0 : Int32))] [(.int (1 : Int32)), (.int (0 : Int32))])
    refine Goes.go (fun _ => XS.icmpNo S.here B.x rfl (B.d d_prog_9_method_4_11) rfl (by decide)) ?_
    show Goes _ _ _ _ T (mkF me_ 14 #[.val (.ref a0), .val (.int p1), .val (.int (1 : Int32)), .val (.int p3), .val (.ref b2), .val (.int (0 : Int32))] [])
    refine Goes.go (fun _ => XS.aload S.here B.x rfl (B.d d_prog_9_method_4_14) rfl rfl) ?_
    show Goes _ _ _ _ T (mkF me_ 16 #[.val (.ref a0), .val (.int p1), .val (.int (1 : Int32)), .val (.int p3), .val (.ref b2), .val (.int (0 : Int32))] [(.ref b2)])
    refine Goes.go (fun _ => XS.iload S.here B.x rfl (B.d d_prog_9_method_4_16) rfl) ?_
    show Goes _ _ _ _ T (mkF me_ 18 #[.val (.ref a0), .val (.int p1), .val (.int (1 : Int32)), .val (.int p3), .val (.ref b2), .val (.int (0 : Int32))] [(.int (0 : Int32)), (.ref b2)])
    refine Goes.go (fun _ => XS.aloadN S.here B.x rfl (B.d d_prog_9_method_4_18) rfl rfl) ?_
    show Goes _ _ _ _ T (mkF me_ 19 #[.val (.ref a0), .val (.int p1), .val (.int (1 : Int32)), .val (.int p3), .val (.ref b2), .val (.int (0 : Int32))] [(.ref a0), (.int (0 : Int32)), (.ref b2)])
    refine Goes.go (fun _ => XS.iloadN S.here B.x rfl (B.d d_prog_9_method_4_19) rfl) ?_
    show Goes _ _ _ _ T (mkF me_ 20 #[.val (.ref a0), .val (.int p1), .val (.int (1 : Int32)), .val (.int p3), .val (.ref b2), .val (.int (0 : Int32))] [(.int p1), (.ref a0), (.int (0 : Int32)), (.ref b2)])
    refine Goes.go (fun _ => XS.iload S.here B.x rfl (B.d d_prog_9_method_4_20) rfl) ?_
    show Goes _ _ _ _ T (mkF me_ 22 #[.val (.ref a0), .val (.int p1), .val (.int (1 : Int32)), .val (.int p3), .val (.ref b2), .val (.int (0 : Int32))] [(.int (0 : Int32)), (.int p1), (.ref a0), (.int (0 : Int32)), (.ref b2)])
    refine Goes.go (fun _ => XS.iloadN S.here B.x rfl (B.d d_prog_9_method_4_22) rfl) ?_
    show Goes _ _ _ _ T (mkF me_ 23 #[.val (.ref a0), .val (.int p1), .val (.int (1 : Int32)), .val (.int p3), .val (.ref b2), .val (.int (0 : Int32))] [(.int p3), (.int (0 : Int32)), (.int p1), (.ref a0), (.int (0 : Int32)), (.ref b2)])
    refine Goes.callS (argsL := [(.ref a0), (.int p1), (.int (0 : Int32)), (.int p3)]) (rest := [(.int (0 : Int32)), (.ref b2)]) (W := 2) S B (rm_cw l Z aw hw a0 p1 (0 : Int32) p3 f (f ((((4 : Int32) * (0 : Int32)) + (0 : Int32)) % p1).toNatClampNeg) (f ((((4 : Int32) * (0 : Int32)) + (1 : Int32)) % p1).toNatClampNeg) (f ((((4 : Int32) * (0 : Int32)) + (2 : Int32)) % p1).toNatClampNeg) (f ((((4 : Int32) * (0 : Int32)) + (3 : Int32)) % p1).toNatClampNeg) _ n0 A_a0 hz (hix _ 0 (by decide) (by decide) (by decide) (by decide)).1 (hix _ 0 (by decide) (by decide) (by decide) (by decide)).2 rfl (hix _ 1 (by decide) (by decide) (by decide) (by decide)).1 (hix _ 1 (by decide) (by decide) (by decide) (by decide)).2 rfl (hix _ 2 (by decide) (by decide) (by decide) (by decide)).1 (hix _ 2 (by decide) (by decide) (by decide) (by decide)).2 rfl (hix _ 3 (by decide) (by decide) (by decide) (by decide)).1 (hix _ 3 (by decide) (by decide) (by decide) (by decide)).2 rfl) (w7 hw) (w8 hw) (w4 hw) (w9 hw) (by decide) (by decide) (by decide) (by decide) (by decide) rfl (lenOf pd_0 rfl) rfl (Nat.le_of_eq rfl) d_prog_9_method_4_23 ?_
    intro v T h S hQ
    obtain ⟨rfl, hh⟩ := hQ
    replace hh := hh.symm
    subst hh
    show Goes _ _ _ _ T (mkF me_ 26 #[.val (.ref a0), .val (.int p1), .val (.int (1 : Int32)), .val (.int p3), .val (.ref b2), .val (.int (0 : Int32))] [(.int (own_cw p3 (f ((((4 : Int32) * (0 : Int32)) + (0 : Int32)) % p1).toNatClampNeg) (f ((((4 : Int32) * (0 : Int32)) + (1 : Int32)) % p1).toNatClampNeg) (f ((((4 : Int32) * (0 : Int32)) + (2 : Int32)) % p1).toNatClampNeg) (f ((((4 : Int32) * (0 : Int32)) + (3 : Int32)) % p1).toNatClampNeg))), (.int (0 : Int32)), (.ref b2)])
    refine Goes.iastore S B A_b2 (by decide) (by decide) g_b2 d_prog_9_method_4_26 ?_
    intro T h S W A_b2
    replace K := K.wr W (Or.inr z_b2)
    replace A_a0 := A_a0.other W ne_a0__b2
    replace A_b2 : Ary Z h b2 .int 1 (aup (fun i => (.int ((fun _ => 0) i))) 0 (.int (own_cw p3 (f ((((4 : Int32) * (0 : Int32)) + (0 : Int32)) % p1).toNatClampNeg) (f ((((4 : Int32) * (0 : Int32)) + (1 : Int32)) % p1).toNatClampNeg) (f ((((4 : Int32) * (0 : Int32)) + (2 : Int32)) % p1).toNatClampNeg) (f ((((4 : Int32) * (0 : Int32)) + (3 : Int32)) % p1).toNatClampNeg)))) := A_b2
    rw [aup_int] at A_b2
    show Goes _ _ _ _ T (mkF me_ 27 #[.val (.ref a0), .val (.int p1), .val (.int (1 : Int32)), .val (.int p3), .val (.ref b2), .val (.int (0 : Int32))] [])
    refine Goes.go (fun _ => XS.iinc S.here B.x rfl (B.d d_prog_9_method_4_27) rfl (l' := #[.val (.ref a0), .val (.int p1), .val (.int (1 : Int32)), .val (.int p3), .val (.ref b2), .val (.int (1 : Int32))]) rfl) ?_
    show Goes _ _ _ _ T (mkF me_ 30 #[.val (.ref a0), .val (.int p1), .val (.int (1 : Int32)), .val (.int p3), .val (.ref b2), .val (.int (1 : Int32))] [])
    refine Goes.go (fun _ => XS.goto S.here B.x rfl (pc0 := 30) (pc' := 8) rfl (B.d d_prog_9_method_4_30) (by decide) (by decide)) ?_
    show Goes _ _ _ _ T (mkF me_ 8 #[.val (.ref a0), .val (.int p1), .val (.int (1 : Int32)), .val (.int p3), .val (.ref b2), .val (.int (1 : Int32))] [])
    refine Goes.go (fun _ => XS.iload S.here B.x rfl (B.d d_prog_9_method_4_8) rfl) ?_
    show Goes _ _ _ _ T (mkF me_ 10 #[.val (.ref a0), .val (.int p1), .val (.int (1 : Int32)), .val (.int p3), .val (.ref b2), .val (.int (1 : Int32))] [(.int (1 : Int32))])
    refine Goes.go (fun _ => XS.iloadN S.here B.x rfl (B.d d_prog_9_method_4_10) rfl) ?_
    show Goes _ _ _ _ T (mkF me_ 11 #[.val (.ref a0), .val (.int p1), .val (.int (1 : Int32)), .val (.int p3), .val (.ref b2), .val (.int (1 : Int32))] [(.int (1 : Int32)), (.int (1 : Int32))])
    refine Goes.go (fun _ => XS.icmpYes S.here B.x rfl (pc0 := 11) (pc' := 33) rfl (B.d d_prog_9_method_4_11) rfl (by decide) (by decide) (by decide)) ?_
    show Goes _ _ _ _ T (mkF me_ 33 #[.val (.ref a0), .val (.int p1), .val (.int (1 : Int32)), .val (.int p3), .val (.ref b2), .val (.int (1 : Int32))] [])
    refine Goes.go (fun _ => XS.aload S.here B.x rfl (B.d d_prog_9_method_4_33) rfl rfl) ?_
    show Goes _ _ _ _ T (mkF me_ 35 #[.val (.ref a0), .val (.int p1), .val (.int (1 : Int32)), .val (.int p3), .val (.ref b2), .val (.int (1 : Int32))] [(.ref b2)])
    refine Goes.retA S B rfl d_prog_9_method_4_35 (by decide) (by decide) ?_
    exact ⟨b2, _, rfl, z_b2, K, A_b2, (fun q => by first | rfl | exact absurd q (by decide)), (fun q => by first | rfl | exact absurd q (by decide)), (fun q => by first | rfl | exact absurd q (by decide))⟩
  · skip
    show Goes _ _ _ _ T (mkF me_ 0 #[.val (.ref a0), .val (.int p1), .val (.int (2 : Int32)), .val (.int p3), .unset, .unset] [])
    refine Goes.go (fun _ => XS.iloadN S.here B.x rfl (B.d d_prog_9_method_4_0) rfl) ?_
    show Goes _ _ _ _ T (mkF me_ 1 #[.val (.ref a0), .val (.int p1), .val (.int (2 : Int32)), .val (.int p3), .unset, .unset] [(.int (2 : Int32))])
    refine Goes.newP (aty := .int) (cap := 2) S B (w6 hw) d_prog_9_method_4_1 (by decide) (by decide) (by decide) (by decide) (by decide) ?_
    intro T h b3 S X zb g_b3 A_b3
    have ne_a0__b3 : a0 ≠ b3 := Nat.ne_of_lt (Nat.lt_of_lt_of_le A_a0.lt (Nat.le_of_eq zb.symm))
    have z_b3 : h0.size ≤ b3 := Nat.le_trans K.1 (Nat.le_of_eq zb.symm)
    replace K := K.ext X
    replace A_a0 := A_a0.ext X
    replace A_b3 : Ary Z h b3 .int 2 (fun i => (.int ((fun _ => 0) i))) := A_b3
    show Goes _ _ _ _ T (mkF me_ 3 #[.val (.ref a0), .val (.int p1), .val (.int (2 : Int32)), .val (.int p3), .unset, .unset] [(.ref b3)])
    refine Goes.go (fun _ => XS.astore S.here B.x rfl (B.d d_prog_9_method_4_3) rfl rfl (l' := #[.val (.ref a0), .val (.int p1), .val (.int (2 : Int32)), .val (.int p3), .val (.ref b3), .unset]) rfl) ?_
    show Goes _ _ _ _ T (mkF me_ 5 #[.val (.ref a0), .val (.int p1), .val (.int (2 : Int32)), .val (.int p3), .val (.ref b3), .unset] [])
    refine Goes.go (fun _ => XS.iconst S.here B.x rfl (B.d d_prog_9_method_4_5)) ?_
    show Goes _ _ _ _ T (mkF me_ 6 #[.val (.ref a0), .val (.int p1), .val (.int (2 : Int32)), .val (.int p3), .val (.ref b3), .unset] [(.int (0 : Int32))])
    refine Goes.go (fun _ => XS.istore S.here B.x rfl (B.d d_prog_9_method_4_6) rfl (l' := #[.val (.ref a0), .val (.int p1), .val (.int (2 : Int32)), .val (.int p3), .val (.ref b3), .val (.int (0 : Int32))]) rfl) ?_
    show Goes _ _ _ _ T (mkF me_ 8 #[.val (.ref a0), .val (.int p1), .val (.int (2 : Int32)), .val (.int p3), .val (.ref b3), .val (.int (0 : Int32))] [])
    refine Goes.go (fun _ => XS.iload S.here B.x rfl (B.d d_prog_9_method_4_8) rfl) ?_
    show Goes _ _ _ _ T (mkF me_ 10 #[.val (.ref a0), .val (.int p1), .val (.int (2 : Int32)), .val (.int p3), .val (.ref b3), .val (.int (0 : Int32))] [(.int (0 : Int32))])
    refine Goes.go (fun _ => XS.iloadN S.here B.x rfl (B.d d_prog_9_method_4_10) rfl) ?_
    show Goes _ _ _ _ T (mkF me_ 11 #[.val (.ref a0), .val (.int p1), .val (.int (2 : Int32)), .val (.int p3), .val (.ref b3), .val (.int (0 : Int32))] [(.int (2 : Int32)), (.int (0 : Int32))])
    refine Goes.go (fun _ => XS.icmpNo S.here B.x rfl (B.d d_prog_9_method_4_11) rfl (by decide)) ?_
    show Goes _ _ _ _ T (mkF me_ 14 #[.val (.ref a0), .val (.int p1), .val (.int (2 : Int32)), .val (.int p3), .val (.ref b3), .val (.int (0 : Int32))] [])
    refine Goes.go (fun _ => XS.aload S.here B.x rfl (B.d d_prog_9_method_4_14) rfl rfl) ?_
    show Goes _ _ _ _ T (mkF me_ 16 #[.val (.ref a0), .val (.int p1), .val (.int (2 : Int32)), .val (.int p3), .val (.ref b3), .val (.int (0 : Int32))] [(.ref b3)])
    refine Goes.go (fun _ => XS.iload S.here B.x rfl (B.d d_prog_9_method_4_16) rfl) ?_
    show Goes _ _ _ _ T (mkF me_ 18 #[.val (.ref a0), .val (.int p1), .val (.int (2 : Int32)), .val (.int p3), .val (.ref b3), .val (.int (0 : Int32))] [(.int (0 : Int32)), (.ref b3)])
    refine Goes.go (fun _ => XS.aloadN S.here B.x rfl (B.d d_prog_9_method_4_18) rfl rfl) ?_
    show Goes _ _ _ _ T (mkF me_ 19 #[.val (.ref a0), .val (.int p1), .val (.int (2 : Int32)), .val (.int p3), .val (.ref b3), .val (.int (0 : Int32))] [(.ref a0), (.int (0 : Int32)), (.ref b3)])
    refine Goes.go (fun _ => XS.iloadN S.here B.x rfl (B.d d_prog_9_method_4_19) rfl) ?_
    show Goes _ _ _ _ T (mkF me_ 20 #[.val (.ref a0), .val (.int p1), .val (.int (2 : Int32)), .val (.int p3), .val (.ref b3), .val (.int (0 : Int32))] [(.int p1), (.ref a0), (.int (0 : Int32)), (.ref b3)])
    refine Goes.go (fun _ => XS.iload S.here B.x rfl (B.d d_prog_9_method_4_20) rfl) ?_
    show Goes _ _ _ _ T (mkF me_ 22 #[.val (.ref a0), .val (.int p1), .val (.int (2 : Int32)), .val (.int p3), .val (.ref b3), .val (.int (0 : Int32))] [(.int (0 : Int32)), (.int p1), (.ref a0), (.int (0 : Int32)), (.ref b3)])
    refine Goes.go (fun _ => XS.iloadN S.here B.x rfl (B.d d_prog_9_method_4_22) rfl) ?_
    show Goes _ _ _ _ T (mkF me_ 23 #[.val (.ref a0), .val (.int p1), .val (.int (2 : Int32)), .val (.int p3), .val (.ref b3), .val (.int (0 : Int32))] [(.int p3), (.int (0 : Int32)), (.int p1), (.ref a0), (.int (0 : Int32)), (.ref b3)])
    refine Goes.callS (argsL := [(.ref a0), (.int p1), (.int (0 : Int32)), (.int p3)]) (rest := [(.int (0 : Int32)), (.ref b3)]) (W := 2) S B (rm_cw l Z aw hw a0 p1 (0 : Int32) p3 f (f ((((4 : Int32) * (0 : Int32)) + (0 : Int32)) % p1).toNatClampNeg) (f ((((4 : Int32) * (0 : Int32)) + (1 : Int32)) % p1).toNatClampNeg) (f ((((4 : Int32) * (0 : Int32)) + (2 : Int32)) % p1).toNatClampNeg) (f ((((4 : Int32) * (0 : Int32)) + (3 : Int32)) % p1).toNatClampNeg) _ n0 A_a0 hz (hix _ 0 (by decide) (by decide) (by decide) (by decide)).1 (hix _ 0 (by decide) (by decide) (by decide) (by decide)).2 rfl (hix _ 1 (by decide) (by decide) (by decide) (by decide)).1 (hix _ 1 (by decide) (by decide) (by decide) (by decide)).2 rfl (hix _ 2 (by decide) (by decide) (by decide) (by decide)).1 (hix _ 2 (by decide) (by decide) (by decide) (by decide)).2 rfl (hix _ 3 (by decide) (by decide) (by decide) (by decide)).1 (hix _ 3 (by decide) (by decide) (by decide) (by decide)).2 rfl) (w7 hw) (w8 hw) (w4 hw) (w9 hw) (by decide) (by decide) (by decide) (by decide) (by decide) rfl (lenOf pd_0 rfl) rfl (Nat.le_of_eq rfl) d_prog_9_method_4_23 ?_
    intro v T h S hQ
    obtain ⟨rfl, hh⟩ := hQ
    replace hh := hh.symm
    subst hh
    show Goes _ _ _ _ T (mkF me_ 26 #[.val (.ref a0), .val (.int p1), .val (.int (2 : Int32)), .val (.int p3), .val (.ref b3), .val (.int (0 : Int32))] [(.int (own_cw p3 (f ((((4 : Int32) * (0 : Int32)) + (0 : Int32)) % p1).toNatClampNeg) (f ((((4 : Int32) * (0 : Int32)) + (1 : Int32)) % p1).toNatClampNeg) (f ((((4 : Int32) * (0 : Int32)) + (2 : Int32)) % p1).toNatClampNeg) (f ((((4 : Int32) * (0 : Int32)) + (3 : Int32)) % p1).toNatClampNeg))), (.int (0 : Int32)), (.ref b3)])
    refine Goes.iastore S B A_b3 (by decide) (by decide) g_b3 d_prog_9_method_4_26 ?_
    intro T h S W A_b3
    replace K := K.wr W (Or.inr z_b3)
    replace A_a0 := A_a0.other W ne_a0__b3
    replace A_b3 : Ary Z h b3 .int 2 (aup (fun i => (.int ((fun _ => 0) i))) 0 (.int (own_cw p3 (f ((((4 : Int32) * (0 : Int32)) + (0 : Int32)) % p1).toNatClampNeg) (f ((((4 : Int32) * (0 : Int32)) + (1 : Int32)) % p1).toNatClampNeg) (f ((((4 : Int32) * (0 : Int32)) + (2 : Int32)) % p1).toNatClampNeg) (f ((((4 : Int32) * (0 : Int32)) + (3 : Int32)) % p1).toNatClampNeg)))) := A_b3
    rw [aup_int] at A_b3
    show Goes _ _ _ _ T (mkF me_ 27 #[.val (.ref a0), .val (.int p1), .val (.int (2 : Int32)), .val (.int p3), .val (.ref b3), .val (.int (0 : Int32))] [])
    refine Goes.go (fun _ => XS.iinc S.here B.x rfl (B.d d_prog_9_method_4_27) rfl (l' := #[.val (.ref a0), .val (.int p1), .val (.int (2 : Int32)), .val (.int p3), .val (.ref b3), .val (.int (1 : Int32))]) rfl) ?_
    show Goes _ _ _ _ T (mkF me_ 30 #[.val (.ref a0), .val (.int p1), .val (.int (2 : Int32)), .val (.int p3), .val (.ref b3), .val (.int (1 : Int32))] [])
    refine Goes.go (fun _ => XS.goto S.here B.x rfl (pc0 := 30) (pc' := 8) rfl (B.d d_prog_9_method_4_30) (by decide) (by decide)) ?_
    show Goes _ _ _ _ T (mkF me_ 8 #[.val (.ref a0), .val (.int p1), .val (.int (2 : Int32)), .val (.int p3), .val (.ref b3), .val (.int (1 : Int32))] [])
    refine Goes.go (fun _ => XS.iload S.here B.x rfl (B.d d_prog_9_method_4_8) rfl) ?_
    show Goes _ _ _ _ T (mkF me_ 10 #[.val (.ref a0), .val (.int p1), .val (.int (2 : Int32)), .val (.int p3), .val (.ref b3), .val (.int (1 : Int32))] [(.int (1 : Int32))])
    refine Goes.go (fun _ => XS.iloadN S.here B.x rfl (B.d d_prog_9_method_4_10) rfl) ?_
    show Goes _ _ _ _ T (mkF me_ 11 #[.val (.ref a0), .val (.int p1), .val (.int (2 : Int32)), .val (.int p3), .val (.ref b3), .val (.int (1 : Int32))] [(.int (2 : Int32)), (.int (1 : Int32))])
    refine Goes.go (fun _ => XS.icmpNo S.here B.x rfl (B.d d_prog_9_method_4_11) rfl (by decide)) ?_
    show Goes _ _ _ _ T (mkF me_ 14 #[.val (.ref a0), .val (.int p1), .val (.int (2 : Int32)), .val (.int p3), .val (.ref b3), .val (.int (1 : Int32))] [])
    refine Goes.go (fun _ => XS.aload S.here B.x rfl (B.d d_prog_9_method_4_14) rfl rfl) ?_
    show Goes _ _ _ _ T (mkF me_ 16 #[.val (.ref a0), .val (.int p1), .val (.int (2 : Int32)), .val (.int p3), .val (.ref b3), .val (.int (1 : Int32))] [(.ref b3)])
    refine Goes.go (fun _ => XS.iload S.here B.x rfl (B.d d_prog_9_method_4_16) rfl) ?_
    show Goes _ _ _ _ T (mkF me_ 18 #[.val (.ref a0), .val (.int p1), .val (.int (2 : Int32)), .val (.int p3), .val (.ref b3), .val (.int (1 : Int32))] [(.int (1 : Int32)), (.ref b3)])
    refine Goes.go (fun _ => XS.aloadN S.here B.x rfl (B.d d_prog_9_method_4_18) rfl rfl) ?_
    show Goes _ _ _ _ T (mkF me_ 19 #[.val (.ref a0), .val (.int p1), .val (.int (2 : Int32)), .val (.int p3), .val (.ref b3), .val (.int (1 : Int32))] [(.ref a0), (.int (1 : Int32)), (.ref b3)])
    refine Goes.go (fun _ => XS.iloadN S.here B.x rfl (B.d d_prog_9_method_4_19) rfl) ?_
    show Goes _ _ _ _ T (mkF me_ 20 #[.val (.ref a0), .val (.int p1), .val (.int (2 : Int32)), .val (.int p3), .val (.ref b3), .val (.int (1 : Int32))] [(.int p1), (.ref a0), (.int (1 : Int32)), (.ref b3)])
    refine Goes.go (fun _ => XS.iload S.here B.x rfl (B.d d_prog_9_method_4_20) rfl) ?_
    show Goes _ _ _ _ T (mkF me_ 22 #[.val (.ref a0), .val (.int p1), .val (.int (2 : Int32)), .val (.int p3), .val (.ref b3), .val (.int (1 : Int32))] [(.int (1 : Int32)), (.int p1), (.ref a0), (.int (1 : Int32)), (.ref b3)])
    refine Goes.go (fun _ => XS.iloadN S.here B.x rfl (B.d d_prog_9_method_4_22) rfl) ?_
    show Goes _ _ _ _ T (mkF me_ 23 #[.val (.ref a0), .val (.int p1), .val (.int (2 : Int32)), .val (.int p3), .val (.ref b3), .val (.int (1 : Int32))] [(.int p3), (.int (1 : Int32)), (.int p1), (.ref a0), (.int (1 : Int32)), (.ref b3)])
    refine Goes.callS (argsL := [(.ref a0), (.int p1), (.int (1 : Int32)), (.int p3)]) (rest := [(.int (1 : Int32)), (.ref b3)]) (W := 2) S B (rm_cw l Z aw hw a0 p1 (1 : Int32) p3 f (f ((((4 : Int32) * (1 : Int32)) + (0 : Int32)) % p1).toNatClampNeg) (f ((((4 : Int32) * (1 : Int32)) + (1 : Int32)) % p1).toNatClampNeg) (f ((((4 : Int32) * (1 : Int32)) + (2 : Int32)) % p1).toNatClampNeg) (f ((((4 : Int32) * (1 : Int32)) + (3 : Int32)) % p1).toNatClampNeg) _ n0 A_a0 hz (hix _ 0 (by decide) (by decide) (by decide) (by decide)).1 (hix _ 0 (by decide) (by decide) (by decide) (by decide)).2 rfl (hix _ 1 (by decide) (by decide) (by decide) (by decide)).1 (hix _ 1 (by decide) (by decide) (by decide) (by decide)).2 rfl (hix _ 2 (by decide) (by decide) (by decide) (by decide)).1 (hix _ 2 (by decide) (by decide) (by decide) (by decide)).2 rfl (hix _ 3 (by decide) (by decide) (by decide) (by decide)).1 (hix _ 3 (by decide) (by decide) (by decide) (by decide)).2 rfl) (w7 hw) (w8 hw) (w4 hw) (w9 hw) (by decide) (by decide) (by decide) (by decide) (by decide) rfl (lenOf pd_0 rfl) rfl (Nat.le_of_eq rfl) d_prog_9_method_4_23 ?_
    intro v T h S hQ
    obtain ⟨rfl, hh⟩ := hQ
    replace hh := hh.symm
    subst hh
    show Goes _ _ _ _ T (mkF me_ 26 #[.val (.ref a0), .val (.int p1), .val (.int (2 : Int32)), .val (.int p3), .val (.ref b3), .val (.int (1 : Int32))] [(.int (own_cw p3 (f ((((4 : Int32) * (1 : Int32)) + (0 : Int32)) % p1).toNatClampNeg) (f ((((4 : Int32) * (1 : Int32)) + (1 : Int32)) % p1).toNatClampNeg) (f ((((4 : Int32) * (1 : Int32)) + (2 : Int32)) % p1).toNatClampNeg) (f ((((4 : Int32) * (1 : Int32)) + (3 : Int32)) % p1).toNatClampNeg))), (.int (1 : Int32)), (.ref b3)])
    refine Goes.iastore S B A_b3 (by decide) (by decide) g_b3 d_prog_9_method_4_26 ?_
    intro T h S W A_b3
    replace K := K.wr W (Or.inr z_b3)
    replace A_a0 := A_a0.other W ne_a0__b3
    replace A_b3 : Ary Z h b3 .int 2 (aup (fun i => (.int ((aup (fun _ => 0) 0 (own_cw p3 (f ((((4 : Int32) * (0 : Int32)) + (0 : Int32)) % p1).toNatClampNeg) (f ((((4 : Int32) * (0 : Int32)) + (1 : Int32)) % p1).toNatClampNeg) (f ((((4 : Int32) * (0 : Int32)) + (2 : Int32)) % p1).toNatClampNeg) (f ((((4 : Int32) * (0 : Int32)) + (3 : Int32)) % p1).toNatClampNeg))) i))) 1 (.int (own_cw p3 (f ((((4 : Int32) * (1 : Int32)) + (0 : Int32)) % p1).toNatClampNeg) (f ((((4 : Int32) * (1 : Int32)) + (1 : Int32)) % p1).toNatClampNeg) (f ((((4 : Int32) * (1 : Int32)) + (2 : Int32)) % p1).toNatClampNeg) (f ((((4 : Int32) * (1 : Int32)) + (3 : Int32)) % p1).toNatClampNeg)))) := A_b3
    rw [aup_int] at A_b3
    show Goes _ _ _ _ T (mkF me_ 27 #[.val (.ref a0), .val (.int p1), .val (.int (2 : Int32)), .val (.int p3), .val (.ref b3), .val (.int (1 : Int32))] [])
    refine Goes.go (fun _ => XS.iinc S.here B.x rfl (B.d d_prog_9_method_4_27) rfl (l' := #[.val (.ref a0), .val (.int p1), .val (.int (2 : Int32)), .val (.int p3), .val (.ref b3), .val (.int (2 : Int32))]) rfl) ?_
    show Goes _ _ _ _ T (mkF me_ 30 #[.val (.ref a0), .val (.int p1), .val (.int (2 : Int32)), .val (.int p3), .val (.ref b3), .val (.int (2 : Int32))] [])
    refine Goes.go (fun _ => XS.goto S.here B.x rfl (pc0 := 30) (pc' := 8) rfl (B.d d_prog_9_method_4_30) (by decide) (by decide)) ?_
    show Goes _ _ _ _ T (mkF me_ 8 #[.val (.ref a0), .val (.int p1), .val (.int (2 : Int32)), .val (.int p3), .val (.ref b3), .val (.int (2 : Int32))] [])
    refine Goes.go (fun _ => XS.iload S.here B.x rfl (B.d d_prog_9_method_4_8) rfl) ?_
    show Goes _ _ _ _ T (mkF me_ 10 #[.val (.ref a0), .val (.int p1), .val (.int (2 : Int32)), .val (.int p3), .val (.ref b3), .val (.int (2 : Int32))] [(.int (2 : Int32))])
    refine Goes.go (fun _ => XS.iloadN S.here B.x rfl (B.d d_prog_9_method_4_10) rfl) ?_
    show Goes _ _ _ _ T (mkF me_ 11 #[.val (.ref a0), .val (.int p1), .val (.int (2 : Int32)), .val (.int p3), .val (.ref b3), .val (.int (2 : Int32))] [(.int (2 : Int32)), (.int (2 : Int32))])
    refine Goes.go (fun _ => XS.icmpYes S.here B.x rfl (pc0 := 11) (pc' := 33) rfl (B.d d_prog_9_method_4_11) rfl (by decide) (by decide) (by decide)) ?_
    show Goes _ _ _ _ T (mkF me_ 33 #[.val (.ref a0), .val (.int p1), .val (.int (2 : Int32)), .val (.int p3), .val (.ref b3), .val (.int (2 : Int32))] [])
    refine Goes.go (fun _ => XS.aload S.here B.x rfl (B.d d_prog_9_method_4_33) rfl rfl) ?_
    show Goes _ _ _ _ T (mkF me_ 35 #[.val (.ref a0), .val (.int p1), .val (.int (2 : Int32)), .val (.int p3), .val (.ref b3), .val (.int (2 : Int32))] [(.ref b3)])
    refine Goes.retA S B rfl d_prog_9_method_4_35 (by decide) (by decide) ?_
    exact ⟨b3, _, rfl, z_b3, K, A_b3, (fun q => by first | rfl | exact absurd q (by decide)), (fun q => by first | rfl | exact absurd q (by decide)), (fun q => by first | rfl | exact absurd q (by decide))⟩
  · skip
    show Goes _ _ _ _ T (mkF me_ 0 #[.val (.ref a0), .val (.int p1), .val (.int (3 : Int32)), .val (.int p3), .unset, .unset] [])
    refine Goes.go (fun _ => XS.iloadN S.here B.x rfl (B.d d_prog_9_method_4_0) rfl) ?_
    show Goes _ _ _ _ T (mkF me_ 1 #[.val (.ref a0), .val (.int p1), .val (.int (3 : Int32)), .val (.int p3), .unset, .unset] [(.int (3 : Int32))])
    refine Goes.newP (aty := .int) (cap := 3) S B (w6 hw) d_prog_9_method_4_1 (by decide) (by decide) (by decide) (by decide) (by decide) ?_
    intro T h b4 S X zb g_b4 A_b4
    have ne_a0__b4 : a0 ≠ b4 := Nat.ne_of_lt (Nat.lt_of_lt_of_le A_a0.lt (Nat.le_of_eq zb.symm))
    have z_b4 : h0.size ≤ b4 := Nat.le_trans K.1 (Nat.le_of_eq zb.symm)
    replace K := K.ext X
    replace A_a0 := A_a0.ext X
    replace A_b4 : Ary Z h b4 .int 3 (fun i => (.int ((fun _ => 0) i))) := A_b4
    show Goes _ _ _ _ T (mkF me_ 3 #[.val (.ref a0), .val (.int p1), .val (.int (3 : Int32)), .val (.int p3), .unset, .unset] [(.ref b4)])
    refine Goes.go (fun _ => XS.astore S.here B.x rfl (B.d d_prog_9_method_4_3) rfl rfl (l' := #[.val (.ref a0), .val (.int p1), .val (.int (3 : Int32)), .val (.int p3), .val (.ref b4), .unset]) rfl) ?_
    show Goes _ _ _ _ T (mkF me_ 5 #[.val (.ref a0), .val (.int p1), .val (.int (3 : Int32)), .val (.int p3), .val (.ref b4), .unset] [])
    refine Goes.go (fun _ => XS.iconst S.here B.x rfl (B.d d_prog_9_method_4_5)) ?_
    show Goes _ _ _ _ T (mkF me_ 6 #[.val (.ref a0), .val (.int p1), .val (.int (3 : Int32)), .val (.int p3), .val (.ref b4), .unset] [(.int (0 : Int32))])
    refine Goes.go (fun _ => XS.istore S.here B.x rfl (B.d d_prog_9_method_4_6) rfl (l' := #[.val (.ref a0), .val (.int p1), .val (.int (3 : Int32)), .val (.int p3), .val (.ref b4), .val (.int (0 : Int32))]) rfl) ?_
    show Goes _ _ _ _ T (mkF me_ 8 #[.val (.ref a0), .val (.int p1), .val (.int (3 : Int32)), .val (.int p3), .val (.ref b4), .val (.int (0 : Int32))] [])
    refine Goes.go (fun _ => XS.iload S.here B.x rfl (B.d d_prog_9_method_4_8) rfl) ?_
    show Goes _ _ _ _ T (mkF me_ 10 #[.val (.ref a0), .val (.int p1), .val (.int (3 : Int32)), .val (.int p3), .val (.ref b4), .val (.int (0 : Int32))] [(.int (0 : Int32))])
    refine Goes.go (fun _ => XS.iloadN S.here B.x rfl (B.d d_prog_9_method_4_10) rfl) ?_
    show Goes _ _ _ _ T (mkF me_ 11 #[.val (.ref a0), .val (.int p1), .val (.int (3 : Int32)), .val (.int p3), .val (.ref b4), .val (.int (0 : Int32))] [(.int (3 : Int32)), (.int (0 : Int32))])
    refine Goes.go (fun _ => XS.icmpNo S.here B.x rfl (B.d d_prog_9_method_4_11) rfl (by decide)) ?_
    show Goes _ _ _ _ T (mkF me_ 14 #[.val (.ref a0), .val (.int p1), .val (.int (3 : Int32)), .val (.int p3), .val (.ref b4), .val (.int (0 : Int32))] [])
    refine Goes.go (fun _ => XS.aload S.here B.x rfl (B.d d_prog_9_method_4_14) rfl rfl) ?_
    show Goes _ _ _ _ T (mkF me_ 16 #[.val (.ref a0), .val (.int p1), .val (.int (3 : Int32)), .val (.int p3), .val (.ref b4), .val (.int (0 : Int32))] [(.ref b4)])
    refine Goes.go (fun _ => XS.iload S.here B.x rfl (B.d d_prog_9_method_4_16) rfl) ?_
    show Goes _ _ _ _ T (mkF me_ 18 #[.val (.ref a0), .val (.int p1), .val (.int (3 : Int32)), .val (.int p3), .val (.ref b4), .val (.int (0 : Int32))] [(.int (0 : Int32)), (.ref b4)])
    refine Goes.go (fun _ => XS.aloadN S.here B.x rfl (B.d d_prog_9_method_4_18) rfl rfl) ?_
    show Goes _ _ _ _ T (mkF me_ 19 #[.val (.ref a0), .val (.int p1), .val (.int (3 : Int32)), .val (.int p3), .val (.ref b4), .val (.int (0 : Int32))] [(.ref a0), (.int (0 : Int32)), (.ref b4)])
    refine Goes.go (fun _ => XS.iloadN S.here B.x rfl (B.d d_prog_9_method_4_19) rfl) ?_
    show Goes _ _ _ _ T (mkF me_ 20 #[.val (.ref a0), .val (.int p1), .val (.int (3 : Int32)), .val (.int p3), .val (.ref b4), .val (.int (0 : Int32))] [(.int p1), (.ref a0), (.int (0 : Int32)), (.ref b4)])
    refine Goes.go (fun _ => XS.iload S.here B.x rfl (B.d d_prog_9_method_4_20) rfl) ?_
    show Goes _ _ _ _ T (mkF me_ 22 #[.val (.ref a0), .val (.int p1), .val (.int (3 : Int32)), .val (.int p3), .val (.ref b4), .val (.int (0 : Int32))] [(.int (0 : Int32)), (.int p1), (.ref a0), (.int (0 : Int32)), (.ref b4)])
    refine Goes.go (fun _ => XS.iloadN S.here B.x rfl (B.d d_prog_9_method_4_22) rfl) ?_
    show Goes _ _ _ _ T (mkF me_ 23 #[.val (.ref a0), .val (.int p1), .val (.int (3 : Int32)), .val (.int p3), .val (.ref b4), .val (.int (0 : Int32))] [(.int p3), (.int (0 : Int32)), (.int p1), (.ref a0), (.int (0 : Int32)), (.ref b4)])
    refine Goes.callS (argsL := [(.ref a0), (.int p1), (.int (0 : Int32)), (.int p3)]) (rest := [(.int (0 : Int32)), (.ref b4)]) (W := 2) S B (rm_cw l Z aw hw a0 p1 (0 : Int32) p3 f (f ((((4 : Int32) * (0 : Int32)) + (0 : Int32)) % p1).toNatClampNeg) (f ((((4 : Int32) * (0 : Int32)) + (1 : Int32)) % p1).toNatClampNeg) (f ((((4 : Int32) * (0 : Int32)) + (2 : Int32)) % p1).toNatClampNeg) (f ((((4 : Int32) * (0 : Int32)) + (3 : Int32)) % p1).toNatClampNeg) _ n0 A_a0 hz (hix _ 0 (by decide) (by decide) (by decide) (by decide)).1 (hix _ 0 (by decide) (by decide) (by decide) (by decide)).2 rfl (hix _ 1 (by decide) (by decide) (by decide) (by decide)).1 (hix _ 1 (by decide) (by decide) (by decide) (by decide)).2 rfl (hix _ 2 (by decide) (by decide) (by decide) (by decide)).1 (hix _ 2 (by decide) (by decide) (by decide) (by decide)).2 rfl (hix _ 3 (by decide) (by decide) (by decide) (by decide)).1 (hix _ 3 (by decide) (by decide) (by decide) (by decide)).2 rfl) (w7 hw) (w8 hw) (w4 hw) (w9 hw) (by decide) (by decide) (by decide) (by decide) (by decide) rfl (lenOf pd_0 rfl) rfl (Nat.le_of_eq rfl) d_prog_9_method_4_23 ?_
    intro v T h S hQ
    obtain ⟨rfl, hh⟩ := hQ
    replace hh := hh.symm
    subst hh
    show Goes _ _ _ _ T (mkF me_ 26 #[.val (.ref a0), .val (.int p1), .val (.int (3 : Int32)), .val (.int p3), .val (.ref b4), .val (.int (0 : Int32))] [(.int (own_cw p3 (f ((((4 : Int32) * (0 : Int32)) + (0 : Int32)) % p1).toNatClampNeg) (f ((((4 : Int32) * (0 : Int32)) + (1 : Int32)) % p1).toNatClampNeg) (f ((((4 : Int32) * (0 : Int32)) + (2 : Int32)) % p1).toNatClampNeg) (f ((((4 : Int32) * (0 : Int32)) + (3 : Int32)) % p1).toNatClampNeg))), (.int (0 : Int32)), (.ref b4)])
    refine Goes.iastore S B A_b4 (by decide) (by decide) g_b4 d_prog_9_method_4_26 ?_
    intro T h S W A_b4
    replace K := K.wr W (Or.inr z_b4)
    replace A_a0 := A_a0.other W ne_a0__b4
    replace A_b4 : Ary Z h b4 .int 3 (aup (fun i => (.int ((fun _ => 0) i))) 0 (.int (own_cw p3 (f ((((4 : Int32) * (0 : Int32)) + (0 : Int32)) % p1).toNatClampNeg) (f ((((4 : Int32) * (0 : Int32)) + (1 : Int32)) % p1).toNatClampNeg) (f ((((4 : Int32) * (0 : Int32)) + (2 : Int32)) % p1).toNatClampNeg) (f ((((4 : Int32) * (0 : Int32)) + (3 : Int32)) % p1).toNatClampNeg)))) := A_b4
    rw [aup_int] at A_b4
    show Goes _ _ _ _ T (mkF me_ 27 #[.val (.ref a0), .val (.int p1), .val (.int (3 : Int32)), .val (.int p3), .val (.ref b4), .val (.int (0 : Int32))] [])
    refine Goes.go (fun _ => XS.iinc S.here B.x rfl (B.d d_prog_9_method_4_27) rfl (l' := #[.val (.ref a0), .val (.int p1), .val (.int (3 : Int32)), .val (.int p3), .val (.ref b4), .val (.int (1 : Int32))]) rfl) ?_
    show Goes _ _ _ _ T (mkF me_ 30 #[.val (.ref a0), .val (.int p1), .val (.int (3 : Int32)), .val (.int p3), .val (.ref b4), .val (.int (1 : Int32))] [])
    refine Goes.go (fun _ => XS.goto S.here B.x rfl (pc0 := 30) (pc' := 8) rfl (B.d d_prog_9_method_4_30) (by decide) (by decide)) ?_
    show Goes _ _ _ _ T (mkF me_ 8 #[.val (.ref a0), .val (.int p1), .val (.int (3 : Int32)), .val (.int p3), .val (.ref b4), .val (.int (1 : Int32))] [])
    refine Goes.go (fun _ => XS.iload S.here B.x rfl (B.d d_prog_9_method_4_8) rfl) ?_
    show Goes _ _ _ _ T (mkF me_ 10 #[.val (.ref a0), .val (.int p1), .val (.int (3 : Int32)), .val (.int p3), .val (.ref b4), .val (.int (1 : Int32))] [(.int (1 : Int32))])
    refine Goes.go (fun _ => XS.iloadN S.here B.x rfl (B.d d_prog_9_method_4_10) rfl) ?_
    show Goes _ _ _ _ T (mkF me_ 11 #[.val (.ref a0), .val (.int p1), .val (.int (3 : Int32)), .val (.int p3), .val (.ref b4), .val (.int (1 : Int32))] [(.int (3 : Int32)), (.int (1 : Int32))])
    refine Goes.go (fun _ => XS.icmpNo S.here B.x rfl (B.d d_prog_9_method_4_11) rfl (by decide)) ?_
    show Goes _ _ _ _ T (mkF me_ 14 #[.val (.ref a0), .val (.int p1), .val (.int (3 : Int32)), .val (.int p3), .val (.ref b4), .val (.int (1 : Int32))] [])
    refine Goes.go (fun _ => XS.aload S.here B.x rfl (B.d d_prog_9_method_4_14) rfl rfl) ?_
    show Goes _ _ _ _ T (mkF me_ 16 #[.val (.ref a0), .val (.int p1), .val (.int (3 : Int32)), .val (.int p3), .val (.ref b4), .val (.int (1 : Int32))] [(.ref b4)])
    refine Goes.go (fun _ => XS.iload S.here B.x rfl (B.d d_prog_9_method_4_16) rfl) ?_
    show Goes _ _ _ _ T (mkF me_ 18 #[.val (.ref a0), .val (.int p1), .val (.int (3 : Int32)), .val (.int p3), .val (.ref b4), .val (.int (1 : Int32))] [(.int (1 : Int32)), (.ref b4)])
    refine Goes.go (fun _ => XS.aloadN S.here B.x rfl (B.d d_prog_9_method_4_18) rfl rfl) ?_
    show Goes _ _ _ _ T (mkF me_ 19 #[.val (.ref a0), .val (.int p1), .val (.int (3 : Int32)), .val (.int p3), .val (.ref b4), .val (.int (1 : Int32))] [(.ref a0), (.int (1 : Int32)), (.ref b4)])
    refine Goes.go (fun _ => XS.iloadN S.here B.x rfl (B.d d_prog_9_method_4_19) rfl) ?_
    show Goes _ _ _ _ T (mkF me_ 20 #[.val (.ref a0), .val (.int p1), .val (.int (3 : Int32)), .val (.int p3), .val (.ref b4), .val (.int (1 : Int32))] [(.int p1), (.ref a0), (.int (1 : Int32)), (.ref b4)])
    refine Goes.go (fun _ => XS.iload S.here B.x rfl (B.d d_prog_9_method_4_20) rfl) ?_
    show Goes _ _ _ _ T (mkF me_ 22 #[.val (.ref a0), .val (.int p1), .val (.int (3 : Int32)), .val (.int p3), .val (.ref b4), .val (.int (1 : Int32))] [(.int (1 : Int32)), (.int p1), (.ref a0), (.int (1 : Int32)), (.ref b4)])
    refine Goes.go (fun _ => XS.iloadN S.here B.x rfl (B.d d_prog_9_method_4_22) rfl) ?_
    show Goes _ _ _ _ T (mkF me_ 23 #[.val (.ref a0), .val (.int p1), .val (.int (3 : Int32)), .val (.int p3), .val (.ref b4), .val (.int (1 : Int32))] [(.int p3), (.int (1 : Int32)), (.int p1), (.ref a0), (.int (1 : Int32)), (.ref b4)])
    refine Goes.callS (argsL := [(.ref a0), (.int p1), (.int (1 : Int32)), (.int p3)]) (rest := [(.int (1 : Int32)), (.ref b4)]) (W := 2) S B (rm_cw l Z aw hw a0 p1 (1 : Int32) p3 f (f ((((4 : Int32) * (1 : Int32)) + (0 : Int32)) % p1).toNatClampNeg) (f ((((4 : Int32) * (1 : Int32)) + (1 : Int32)) % p1).toNatClampNeg) (f ((((4 : Int32) * (1 : Int32)) + (2 : Int32)) % p1).toNatClampNeg) (f ((((4 : Int32) * (1 : Int32)) + (3 : Int32)) % p1).toNatClampNeg) _ n0 A_a0 hz (hix _ 0 (by decide) (by decide) (by decide) (by decide)).1 (hix _ 0 (by decide) (by decide) (by decide) (by decide)).2 rfl (hix _ 1 (by decide) (by decide) (by decide) (by decide)).1 (hix _ 1 (by decide) (by decide) (by decide) (by decide)).2 rfl (hix _ 2 (by decide) (by decide) (by decide) (by decide)).1 (hix _ 2 (by decide) (by decide) (by decide) (by decide)).2 rfl (hix _ 3 (by decide) (by decide) (by decide) (by decide)).1 (hix _ 3 (by decide) (by decide) (by decide) (by decide)).2 rfl) (w7 hw) (w8 hw) (w4 hw) (w9 hw) (by decide) (by decide) (by decide) (by decide) (by decide) rfl (lenOf pd_0 rfl) rfl (Nat.le_of_eq rfl) d_prog_9_method_4_23 ?_
    intro v T h S hQ
    obtain ⟨rfl, hh⟩ := hQ
    replace hh := hh.symm
    subst hh
    show Goes _ _ _ _ T (mkF me_ 26 #[.val (.ref a0), .val (.int p1), .val (.int (3 : Int32)), .val (.int p3), .val (.ref b4), .val (.int (1 : Int32))] [(.int (own_cw p3 (f ((((4 : Int32) * (1 : Int32)) + (0 : Int32)) % p1).toNatClampNeg) (f ((((4 : Int32) * (1 : Int32)) + (1 : Int32)) % p1).toNatClampNeg) (f ((((4 : Int32) * (1 : Int32)) + (2 : Int32)) % p1).toNatClampNeg) (f ((((4 : Int32) * (1 : Int32)) + (3 : Int32)) % p1).toNatClampNeg))), (.int (1 : Int32)), (.ref b4)])
    refine Goes.iastore S B A_b4 (by decide) (by decide) g_b4 d_prog_9_method_4_26 ?_
    intro T h S W A_b4
    replace K := K.wr W (Or.inr z_b4)
    replace A_a0 := A_a0.other W ne_a0__b4
    replace A_b4 : Ary Z h b4 .int 3 (aup (fun i => (.int ((aup (fun _ => 0) 0 (own_cw p3 (f ((((4 : Int32) * (0 : Int32)) + (0 : Int32)) % p1).toNatClampNeg) (f ((((4 : Int32) * (0 : Int32)) + (1 : Int32)) % p1).toNatClampNeg) (f ((((4 : Int32) * (0 : Int32)) + (2 : Int32)) % p1).toNatClampNeg) (f ((((4 : Int32) * (0 : Int32)) + (3 : Int32)) % p1).toNatClampNeg))) i))) 1 (.int (own_cw p3 (f ((((4 : Int32) * (1 : Int32)) + (0 : Int32)) % p1).toNatClampNeg) (f ((((4 : Int32) * (1 : Int32)) + (1 : Int32)) % p1).toNatClampNeg) (f ((((4 : Int32) * (1 : Int32)) + (2 : Int32)) % p1).toNatClampNeg) (f ((((4 : Int32) * (1 : Int32)) + (3 : Int32)) % p1).toNatClampNeg)))) := A_b4
    rw [aup_int] at A_b4
    show Goes _ _ _ _ T (mkF me_ 27 #[.val (.ref a0), .val (.int p1), .val (.int (3 : Int32)), .val (.int p3), .val (.ref b4), .val (.int (1 : Int32))] [])
    refine Goes.go (fun _ => XS.iinc S.here B.x rfl (B.d d_prog_9_method_4_27) rfl (l' := #[.val (.ref a0), .val (.int p1), .val (.int (3 : Int32)), .val (.int p3), .val (.ref b4), .val (.int (2 : Int32))]) rfl) ?_
    show Goes _ _ _ _ T (mkF me_ 30 #[.val (.ref a0), .val (.int p1), .val (.int (3 : Int32)), .val (.int p3), .val (.ref b4), .val (.int (2 : Int32))] [])
    refine Goes.go (fun _ => XS.goto S.here B.x rfl (pc0 := 30) (pc' := 8) rfl (B.d d_prog_9_method_4_30) (by decide) (by decide)) ?_
    show Goes _ _ _ _ T (mkF me_ 8 #[.val (.ref a0), .val (.int p1), .val (.int (3 : Int32)), .val (.int p3), .val (.ref b4), .val (.int (2 : Int32))] [])
    refine Goes.go (fun _ => XS.iload S.here B.x rfl (B.d d_prog_9_method_4_8) rfl) ?_
    show Goes _ _ _ _ T (mkF me_ 10 #[.val (.ref a0), .val (.int p1), .val (.int (3 : Int32)), .val (.int p3), .val (.ref b4), .val (.int (2 : Int32))] [(.int (2 : Int32))])
    refine Goes.go (fun _ => XS.iloadN S.here B.x rfl (B.d d_prog_9_method_4_10) rfl) ?_
    show Goes _ _ _ _ T (mkF me_ 11 #[.val (.ref a0), .val (.int p1), .val (.int (3 : Int32)), .val (.int p3), .val (.ref b4), .val (.int (2 : Int32))] [(.int (3 : Int32)), (.int (2 : Int32))])
    refine Goes.go (fun _ => XS.icmpNo S.here B.x rfl (B.d d_prog_9_method_4_11) rfl (by decide)) ?_
    show Goes _ _ _ _ T (mkF me_ 14 #[.val (.ref a0), .val (.int p1), .val (.int (3 : Int32)), .val (.int p3), .val (.ref b4), .val (.int (2 : Int32))] [])
    refine Goes.go (fun _ => XS.aload S.here B.x rfl (B.d d_prog_9_method_4_14) rfl rfl) ?_
    show Goes _ _ _ _ T (mkF me_ 16 #[.val (.ref a0), .val (.int p1), .val (.int (3 : Int32)), .val (.int p3), .val (.ref b4), .val (.int (2 : Int32))] [(.ref b4)])
    refine Goes.go (fun _ => XS.iload S.here B.x rfl (B.d d_prog_9_method_4_16) rfl) ?_
    show Goes _ _ _ _ T (mkF me_ 18 #[.val (.ref a0), .val (.int p1), .val (.int (3 : Int32)), .val (.int p3), .val (.ref b4), .val (.int (2 : Int32))] [(.int (2 : Int32)), (.ref b4)])
    refine Goes.go (fun _ => XS.aloadN S.here B.x rfl (B.d d_prog_9_method_4_18) rfl rfl) ?_
    show Goes _ _ _ _ T (mkF me_ 19 #[.val (.ref a0), .val (.int p1), .val (.int (3 : Int32)), .val (.int p3), .val (.ref b4), .val (.int (2 : Int32))] [(.ref a0), (.int (2 : Int32)), (.ref b4)])
    refine Goes.go (fun _ => XS.iloadN S.here B.x rfl (B.d d_prog_9_method_4_19) rfl) ?_
    show Goes _ _ _ _ T (mkF me_ 20 #[.val (.ref a0), .val (.int p1), .val (.int (3 : Int32)), .val (.int p3), .val (.ref b4), .val (.int (2 : Int32))] [(.int p1), (.ref a0), (.int (2 : Int32)), (.ref b4)])
    refine Goes.go (fun _ => XS.iload S.here B.x rfl (B.d d_prog_9_method_4_20) rfl) ?_
    show Goes _ _ _ _ T (mkF me_ 22 #[.val (.ref a0), .val (.int p1), .val (.int (3 : Int32)), .val (.int p3), .val (.ref b4), .val (.int (2 : Int32))] [(.int (2 : Int32)), (.int p1), (.ref a0), (.int (2 : Int32)), (.ref b4)])
    refine Goes.go (fun _ => XS.iloadN S.here B.x rfl (B.d d_prog_9_method_4_22) rfl) ?_
    show Goes _ _ _ _ T (mkF me_ 23 #[.val (.ref a0), .val (.int p1), .val (.int (3 : Int32)), .val (.int p3), .val (.ref b4), .val (.int (2 : Int32))] [(.int p3), (.int (2 : Int32)), (.int p1), (.ref a0), (.int (2 : Int32)), (.ref b4)])
    refine Goes.callS (argsL := [(.ref a0), (.int p1), (.int (2 : Int32)), (.int p3)]) (rest := [(.int (2 : Int32)), (.ref b4)]) (W := 2) S B (rm_cw l Z aw hw a0 p1 (2 : Int32) p3 f (f ((((4 : Int32) * (2 : Int32)) + (0 : Int32)) % p1).toNatClampNeg) (f ((((4 : Int32) * (2 : Int32)) + (1 : Int32)) % p1).toNatClampNeg) (f ((((4 : Int32) * (2 : Int32)) + (2 : Int32)) % p1).toNatClampNeg) (f ((((4 : Int32) * (2 : Int32)) + (3 : Int32)) % p1).toNatClampNeg) _ n0 A_a0 hz (hix _ 0 (by decide) (by decide) (by decide) (by decide)).1 (hix _ 0 (by decide) (by decide) (by decide) (by decide)).2 rfl (hix _ 1 (by decide) (by decide) (by decide) (by decide)).1 (hix _ 1 (by decide) (by decide) (by decide) (by decide)).2 rfl (hix _ 2 (by decide) (by decide) (by decide) (by decide)).1 (hix _ 2 (by decide) (by decide) (by decide) (by decide)).2 rfl (hix _ 3 (by decide) (by decide) (by decide) (by decide)).1 (hix _ 3 (by decide) (by decide) (by decide) (by decide)).2 rfl) (w7 hw) (w8 hw) (w4 hw) (w9 hw) (by decide) (by decide) (by decide) (by decide) (by decide) rfl (lenOf pd_0 rfl) rfl (Nat.le_of_eq rfl) d_prog_9_method_4_23 ?_
    intro v T h S hQ
    obtain ⟨rfl, hh⟩ := hQ
    replace hh := hh.symm
    subst hh
    show Goes _ _ _ _ T (mkF me_ 26 #[.val (.ref a0), .val (.int p1), .val (.int (3 : Int32)), .val (.int p3), .val (.ref b4), .val (.int (2 : Int32))] [(.int (own_cw p3 (f ((((4 : Int32) * (2 : Int32)) + (0 : Int32)) % p1).toNatClampNeg) (f ((((4 : Int32) * (2 : Int32)) + (1 : Int32)) % p1).toNatClampNeg) (f ((((4 : Int32) * (2 : Int32)) + (2 : Int32)) % p1).toNatClampNeg) (f ((((4 : Int32) * (2 : Int32)) + (3 : Int32)) % p1).toNatClampNeg))), (.int (2 : Int32)), (.ref b4)])
    refine Goes.iastore S B A_b4 (by decide) (by decide) g_b4 d_prog_9_method_4_26 ?_
    intro T h S W A_b4
    replace K := K.wr W (Or.inr z_b4)
    replace A_a0 := A_a0.other W ne_a0__b4
    replace A_b4 : Ary Z h b4 .int 3 (aup (fun i => (.int ((aup (aup (fun _ => 0) 0 (own_cw p3 (f ((((4 : Int32) * (0 : Int32)) + (0 : Int32)) % p1).toNatClampNeg) (f ((((4 : Int32) * (0 : Int32)) + (1 : Int32)) % p1).toNatClampNeg) (f ((((4 : Int32) * (0 : Int32)) + (2 : Int32)) % p1).toNatClampNeg) (f ((((4 : Int32) * (0 : Int32)) + (3 : Int32)) % p1).toNatClampNeg))) 1 (own_cw p3 (f ((((4 : Int32) * (1 : Int32)) + (0 : Int32)) % p1).toNatClampNeg) (f ((((4 : Int32) * (1 : Int32)) + (1 : Int32)) % p1).toNatClampNeg) (f ((((4 : Int32) * (1 : Int32)) + (2 : Int32)) % p1).toNatClampNeg) (f ((((4 : Int32) * (1 : Int32)) + (3 : Int32)) % p1).toNatClampNeg))) i))) 2 (.int (own_cw p3 (f ((((4 : Int32) * (2 : Int32)) + (0 : Int32)) % p1).toNatClampNeg) (f ((((4 : Int32) * (2 : Int32)) + (1 : Int32)) % p1).toNatClampNeg) (f ((((4 : Int32) * (2 : Int32)) + (2 : Int32)) % p1).toNatClampNeg) (f ((((4 : Int32) * (2 : Int32)) + (3 : Int32)) % p1).toNatClampNeg)))) := A_b4
    rw [aup_int] at A_b4
    show Goes _ _ _ _ T (mkF me_ 27 #[.val (.ref a0), .val (.int p1), .val (.int (3 : Int32)), .val (.int p3), .val (.ref b4), .val (.int (2 : Int32))] [])
    refine Goes.go (fun _ => XS.iinc S.here B.x rfl (B.d d_prog_9_method_4_27) rfl (l' := #[.val (.ref a0), .val (.int p1), .val (.int (3 : Int32)), .val (.int p3), .val (.ref b4), .val (.int (3 : Int32))]) rfl) ?_
    show Goes _ _ _ _ T (mkF me_ 30 #[.val (.ref a0), .val (.int p1), .val (.int (3 : Int32)), .val (.int p3), .val (.ref b4), .val (.int (3 : Int32))] [])
    refine Goes.go (fun _ => XS.goto S.here B.x rfl (pc0 := 30) (pc' := 8) rfl (B.d d_prog_9_method_4_30) (by decide) (by decide)) ?_
    show Goes _ _ _ _ T (mkF me_ 8 #[.val (.ref a0), .val (.int p1), .val (.int (3 : Int32)), .val (.int p3), .val (.ref b4), .val (.int (3 : Int32))] [])
    refine Goes.go (fun _ => XS.iload S.here B.x rfl (B.d d_prog_9_method_4_8) rfl) ?_
    show Goes _ _ _ _ T (mkF me_ 10 #[.val (.ref a0), .val (.int p1), .val (.int (3 : Int32)), .val (.int p3), .val (.ref b4), .val (.int (3 : Int32))] [(.int (3 : Int32))])
    refine Goes.go (fun _ => XS.iloadN S.here B.x rfl (B.d d_prog_9_method_4_10) rfl) ?_
    show Goes _ _ _ _ T (mkF me_ 11 #[.val (.ref a0), .val (.int p1), .val (.int (3 : Int32)), .val (.int p3), .val (.ref b4), .val (.int (3 : Int32))] [(.int (3 : Int32)), (.int (3 : Int32))])
    refine Goes.go (fun _ => XS.icmpYes S.here B.x rfl (pc0 := 11) (pc' := 33) rfl (B.d d_prog_9_method_4_11) rfl (by decide) (by decide) (by decide)) ?_
    show Goes _ _ _ _ T (mkF me_ 33 #[.val (.ref a0), .val (.int p1), .val (.int (3 : Int32)), .val (.int p3), .val (.ref b4), .val (.int (3 : Int32))] [])
    refine Goes.go (fun _ => XS.aload S.here B.x rfl (B.d d_prog_9_method_4_33) rfl rfl) ?_
    show Goes _ _ _ _ T (mkF me_ 35 #[.val (.ref a0), .val (.int p1), .val (.int (3 : Int32)), .val (.int p3), .val (.ref b4), .val (.int (3 : Int32))] [(.ref b4)])
    refine Goes.retA S B rfl d_prog_9_method_4_35 (by decide) (by decide) ?_
    exact ⟨b4, _, rfl, z_b4, K, A_b4, (fun q => by first | rfl | exact absurd q (by decide)), (fun q => by first | rfl | exact absurd q (by decide)), (fun q => by first | rfl | exact absurd q (by decide))⟩
theorem ef_rm0 (m : MethodId) (q0 : Int64) (p1 : Int32) (p2 : Int32) (p3 : Int32) : entryFrame m #[(.long q0), (.int p1), (.int p2), (.int p3)] maxLocals = mkF m 0 #[.val (.long q0), .second, .val (.int p1), .val (.int p2), .val (.int p3), .unset, .unset, .unset, .unset, .unset] [] := by first | (simp [entryFrame, mkF, argsToLocals, Value.category, maxLocals]; done) | rfl
def Q_rm0 (Z : State) (q0 : Int64) (p1 : Int32) (p2 : Int32) (p3 : Int32) (h0 : Heap) (n0 : Nat) (v : Option Value) (h : Heap) : Prop := v = some (.int 1)
set_option maxRecDepth 65536 in
set_option maxHeartbeats 40000000 in
theorem rm0 (l : Launch) (Z : State) (aw : Array Value) (hw : ∀ d ∈ tables_1, d.before aw Z = true) (q0 : Int64) (p1 : Int32) (p2 : Int32) (p3 : Int32) (h0 : Heap) (n0 : Nat) :
    Con l Z x code maxLocals ret room_1 #[(.long q0), (.int p1), (.int p2), (.int p3)] h0 n0 (Q_rm0 Z q0 p1 p2 p3 h0 n0) := by
  refine Con.body (plainFor_of_name pn_1) ?_
  intro pr_ en_ st_ me_ below meth co_ T B S
  refine Goes.cast (ef_rm0 me_ q0 p1 p2 p3) ?_
  refine Goes.go (fun _ => XS.bipush S.here B.x rfl (B.d at_0)) ?_
  show Goes _ _ _ _ T (mkF me_ 2 #[.val (.long q0), .second, .val (.int p1), .val (.int p2), .val (.int p3), .unset, .unset, .unset, .unset, .unset] [(.int (8 : Int32))])
  refine Goes.newP (aty := .byte) (cap := 8) S B (w0 hw) at_2 (by decide) (by decide) (by decide) (by decide) (by decide) ?_
  intro T h b1 S X zb g_b1 A_b1
  replace A_b1 : Ary Z h b1 .byte 8 (fun i => (.int ((fun _ => 0) i))) := A_b1
  show Goes _ _ _ _ T (mkF me_ 4 #[.val (.long q0), .second, .val (.int p1), .val (.int p2), .val (.int p3), .unset, .unset, .unset, .unset, .unset] [(.ref b1)])
  refine Goes.go (fun _ => XS.astore S.here B.x rfl (B.d at_4) rfl rfl (l' := #[.val (.long q0), .second, .val (.int p1), .val (.int p2), .val (.int p3), .val (.ref b1), .unset, .unset, .unset, .unset]) rfl) ?_
  show Goes _ _ _ _ T (mkF me_ 6 #[.val (.long q0), .second, .val (.int p1), .val (.int p2), .val (.int p3), .val (.ref b1), .unset, .unset, .unset, .unset] [])
  refine Goes.go (fun _ => XS.aload S.here B.x rfl (B.d at_6) rfl rfl) ?_
  show Goes _ _ _ _ T (mkF me_ 8 #[.val (.long q0), .second, .val (.int p1), .val (.int p2), .val (.int p3), .val (.ref b1), .unset, .unset, .unset, .unset] [(.ref b1)])
  refine Goes.go (fun _ => XS.iconst S.here B.x rfl (B.d at_8)) ?_
  show Goes _ _ _ _ T (mkF me_ 9 #[.val (.long q0), .second, .val (.int p1), .val (.int p2), .val (.int p3), .val (.ref b1), .unset, .unset, .unset, .unset] [(.int (0 : Int32)), (.ref b1)])
  refine Goes.go (fun _ => XS.lloadN S.here B.x rfl (B.d at_9) rfl) ?_
  show Goes _ _ _ _ T (mkF me_ 10 #[.val (.long q0), .second, .val (.int p1), .val (.int p2), .val (.int p3), .val (.ref b1), .unset, .unset, .unset, .unset] [(.long q0), (.int (0 : Int32)), (.ref b1)])
  refine Goes.go (fun _ => XS.l2i S.here B.x rfl (B.d at_10) rfl) ?_
  show Goes _ _ _ _ T (mkF me_ 11 #[.val (.long q0), .second, .val (.int p1), .val (.int p2), .val (.int p3), .val (.ref b1), .unset, .unset, .unset, .unset] [(.int q0.toInt32), (.int (0 : Int32)), (.ref b1)])
  refine Goes.go (fun _ => XS.i2b S.here B.x rfl (B.d at_11) rfl) ?_
  show Goes _ _ _ _ T (mkF me_ 12 #[.val (.long q0), .second, .val (.int p1), .val (.int p2), .val (.int p3), .val (.ref b1), .unset, .unset, .unset, .unset] [(.int q0.toInt32.toInt8.toInt32), (.int (0 : Int32)), (.ref b1)])
  refine Goes.bastore S B A_b1 (by decide) (by decide) g_b1 at_12 ?_
  intro T h S W A_b1
  replace A_b1 : Ary Z h b1 .byte 8 (aup (fun i => (.int ((fun _ => 0) i))) 0 (.int (nar .byte q0.toInt32.toInt8.toInt32))) := A_b1
  rw [aup_int] at A_b1
  show Goes _ _ _ _ T (mkF me_ 13 #[.val (.long q0), .second, .val (.int p1), .val (.int p2), .val (.int p3), .val (.ref b1), .unset, .unset, .unset, .unset] [])
  refine Goes.go (fun _ => XS.aload S.here B.x rfl (B.d at_13) rfl rfl) ?_
  show Goes _ _ _ _ T (mkF me_ 15 #[.val (.long q0), .second, .val (.int p1), .val (.int p2), .val (.int p3), .val (.ref b1), .unset, .unset, .unset, .unset] [(.ref b1)])
  refine Goes.go (fun _ => XS.iconst S.here B.x rfl (B.d at_15)) ?_
  show Goes _ _ _ _ T (mkF me_ 16 #[.val (.long q0), .second, .val (.int p1), .val (.int p2), .val (.int p3), .val (.ref b1), .unset, .unset, .unset, .unset] [(.int (1 : Int32)), (.ref b1)])
  refine Goes.go (fun _ => XS.lloadN S.here B.x rfl (B.d at_16) rfl) ?_
  show Goes _ _ _ _ T (mkF me_ 17 #[.val (.long q0), .second, .val (.int p1), .val (.int p2), .val (.int p3), .val (.ref b1), .unset, .unset, .unset, .unset] [(.long q0), (.int (1 : Int32)), (.ref b1)])
  refine Goes.go (fun _ => XS.bipush S.here B.x rfl (B.d at_17)) ?_
  show Goes _ _ _ _ T (mkF me_ 19 #[.val (.long q0), .second, .val (.int p1), .val (.int p2), .val (.int p3), .val (.ref b1), .unset, .unset, .unset, .unset] [(.int (8 : Int32)), (.long q0), (.int (1 : Int32)), (.ref b1)])
  refine Goes.go (fun _ => XS.lushr S.here B.x rfl (B.d at_19) rfl) ?_
  show Goes _ _ _ _ T (mkF me_ 20 #[.val (.long q0), .second, .val (.int p1), .val (.int p2), .val (.int p3), .val (.ref b1), .unset, .unset, .unset, .unset] [(.long ((q0.toUInt64 >>> ((8 : Int32) &&& 0x3f).toInt64.toUInt64).toInt64)), (.int (1 : Int32)), (.ref b1)])
  refine Goes.go (fun _ => XS.l2i S.here B.x rfl (B.d at_20) rfl) ?_
  show Goes _ _ _ _ T (mkF me_ 21 #[.val (.long q0), .second, .val (.int p1), .val (.int p2), .val (.int p3), .val (.ref b1), .unset, .unset, .unset, .unset] [(.int ((q0.toUInt64 >>> ((8 : Int32) &&& 0x3f).toInt64.toUInt64).toInt64).toInt32), (.int (1 : Int32)), (.ref b1)])
  refine Goes.go (fun _ => XS.i2b S.here B.x rfl (B.d at_21) rfl) ?_
  show Goes _ _ _ _ T (mkF me_ 22 #[.val (.long q0), .second, .val (.int p1), .val (.int p2), .val (.int p3), .val (.ref b1), .unset, .unset, .unset, .unset] [(.int ((q0.toUInt64 >>> ((8 : Int32) &&& 0x3f).toInt64.toUInt64).toInt64).toInt32.toInt8.toInt32), (.int (1 : Int32)), (.ref b1)])
  refine Goes.bastore S B A_b1 (by decide) (by decide) g_b1 at_22 ?_
  intro T h S W A_b1
  replace A_b1 : Ary Z h b1 .byte 8 (aup (fun i => (.int ((aup (fun _ => 0) 0 (nar .byte q0.toInt32.toInt8.toInt32)) i))) 1 (.int (nar .byte ((q0.toUInt64 >>> ((8 : Int32) &&& 0x3f).toInt64.toUInt64).toInt64).toInt32.toInt8.toInt32))) := A_b1
  rw [aup_int] at A_b1
  show Goes _ _ _ _ T (mkF me_ 23 #[.val (.long q0), .second, .val (.int p1), .val (.int p2), .val (.int p3), .val (.ref b1), .unset, .unset, .unset, .unset] [])
  refine Goes.go (fun _ => XS.aload S.here B.x rfl (B.d at_23) rfl rfl) ?_
  show Goes _ _ _ _ T (mkF me_ 25 #[.val (.long q0), .second, .val (.int p1), .val (.int p2), .val (.int p3), .val (.ref b1), .unset, .unset, .unset, .unset] [(.ref b1)])
  refine Goes.go (fun _ => XS.iconst S.here B.x rfl (B.d at_25)) ?_
  show Goes _ _ _ _ T (mkF me_ 26 #[.val (.long q0), .second, .val (.int p1), .val (.int p2), .val (.int p3), .val (.ref b1), .unset, .unset, .unset, .unset] [(.int (2 : Int32)), (.ref b1)])
  refine Goes.go (fun _ => XS.lloadN S.here B.x rfl (B.d at_26) rfl) ?_
  show Goes _ _ _ _ T (mkF me_ 27 #[.val (.long q0), .second, .val (.int p1), .val (.int p2), .val (.int p3), .val (.ref b1), .unset, .unset, .unset, .unset] [(.long q0), (.int (2 : Int32)), (.ref b1)])
  refine Goes.go (fun _ => XS.bipush S.here B.x rfl (B.d at_27)) ?_
  show Goes _ _ _ _ T (mkF me_ 29 #[.val (.long q0), .second, .val (.int p1), .val (.int p2), .val (.int p3), .val (.ref b1), .unset, .unset, .unset, .unset] [(.int (16 : Int32)), (.long q0), (.int (2 : Int32)), (.ref b1)])
  refine Goes.go (fun _ => XS.lushr S.here B.x rfl (B.d at_29) rfl) ?_
  show Goes _ _ _ _ T (mkF me_ 30 #[.val (.long q0), .second, .val (.int p1), .val (.int p2), .val (.int p3), .val (.ref b1), .unset, .unset, .unset, .unset] [(.long ((q0.toUInt64 >>> ((16 : Int32) &&& 0x3f).toInt64.toUInt64).toInt64)), (.int (2 : Int32)), (.ref b1)])
  refine Goes.go (fun _ => XS.l2i S.here B.x rfl (B.d at_30) rfl) ?_
  show Goes _ _ _ _ T (mkF me_ 31 #[.val (.long q0), .second, .val (.int p1), .val (.int p2), .val (.int p3), .val (.ref b1), .unset, .unset, .unset, .unset] [(.int ((q0.toUInt64 >>> ((16 : Int32) &&& 0x3f).toInt64.toUInt64).toInt64).toInt32), (.int (2 : Int32)), (.ref b1)])
  refine Goes.go (fun _ => XS.i2b S.here B.x rfl (B.d at_31) rfl) ?_
  show Goes _ _ _ _ T (mkF me_ 32 #[.val (.long q0), .second, .val (.int p1), .val (.int p2), .val (.int p3), .val (.ref b1), .unset, .unset, .unset, .unset] [(.int ((q0.toUInt64 >>> ((16 : Int32) &&& 0x3f).toInt64.toUInt64).toInt64).toInt32.toInt8.toInt32), (.int (2 : Int32)), (.ref b1)])
  refine Goes.bastore S B A_b1 (by decide) (by decide) g_b1 at_32 ?_
  intro T h S W A_b1
  replace A_b1 : Ary Z h b1 .byte 8 (aup (fun i => (.int ((aup (aup (fun _ => 0) 0 (nar .byte q0.toInt32.toInt8.toInt32)) 1 (nar .byte ((q0.toUInt64 >>> ((8 : Int32) &&& 0x3f).toInt64.toUInt64).toInt64).toInt32.toInt8.toInt32)) i))) 2 (.int (nar .byte ((q0.toUInt64 >>> ((16 : Int32) &&& 0x3f).toInt64.toUInt64).toInt64).toInt32.toInt8.toInt32))) := A_b1
  rw [aup_int] at A_b1
  show Goes _ _ _ _ T (mkF me_ 33 #[.val (.long q0), .second, .val (.int p1), .val (.int p2), .val (.int p3), .val (.ref b1), .unset, .unset, .unset, .unset] [])
  refine Goes.go (fun _ => XS.aload S.here B.x rfl (B.d at_33) rfl rfl) ?_
  show Goes _ _ _ _ T (mkF me_ 35 #[.val (.long q0), .second, .val (.int p1), .val (.int p2), .val (.int p3), .val (.ref b1), .unset, .unset, .unset, .unset] [(.ref b1)])
  refine Goes.go (fun _ => XS.iconst S.here B.x rfl (B.d at_35)) ?_
  show Goes _ _ _ _ T (mkF me_ 36 #[.val (.long q0), .second, .val (.int p1), .val (.int p2), .val (.int p3), .val (.ref b1), .unset, .unset, .unset, .unset] [(.int (3 : Int32)), (.ref b1)])
  refine Goes.go (fun _ => XS.lloadN S.here B.x rfl (B.d at_36) rfl) ?_
  show Goes _ _ _ _ T (mkF me_ 37 #[.val (.long q0), .second, .val (.int p1), .val (.int p2), .val (.int p3), .val (.ref b1), .unset, .unset, .unset, .unset] [(.long q0), (.int (3 : Int32)), (.ref b1)])
  refine Goes.go (fun _ => XS.bipush S.here B.x rfl (B.d at_37)) ?_
  show Goes _ _ _ _ T (mkF me_ 39 #[.val (.long q0), .second, .val (.int p1), .val (.int p2), .val (.int p3), .val (.ref b1), .unset, .unset, .unset, .unset] [(.int (24 : Int32)), (.long q0), (.int (3 : Int32)), (.ref b1)])
  refine Goes.go (fun _ => XS.lushr S.here B.x rfl (B.d at_39) rfl) ?_
  show Goes _ _ _ _ T (mkF me_ 40 #[.val (.long q0), .second, .val (.int p1), .val (.int p2), .val (.int p3), .val (.ref b1), .unset, .unset, .unset, .unset] [(.long ((q0.toUInt64 >>> ((24 : Int32) &&& 0x3f).toInt64.toUInt64).toInt64)), (.int (3 : Int32)), (.ref b1)])
  refine Goes.go (fun _ => XS.l2i S.here B.x rfl (B.d at_40) rfl) ?_
  show Goes _ _ _ _ T (mkF me_ 41 #[.val (.long q0), .second, .val (.int p1), .val (.int p2), .val (.int p3), .val (.ref b1), .unset, .unset, .unset, .unset] [(.int ((q0.toUInt64 >>> ((24 : Int32) &&& 0x3f).toInt64.toUInt64).toInt64).toInt32), (.int (3 : Int32)), (.ref b1)])
  refine Goes.go (fun _ => XS.i2b S.here B.x rfl (B.d at_41) rfl) ?_
  show Goes _ _ _ _ T (mkF me_ 42 #[.val (.long q0), .second, .val (.int p1), .val (.int p2), .val (.int p3), .val (.ref b1), .unset, .unset, .unset, .unset] [(.int ((q0.toUInt64 >>> ((24 : Int32) &&& 0x3f).toInt64.toUInt64).toInt64).toInt32.toInt8.toInt32), (.int (3 : Int32)), (.ref b1)])
  refine Goes.bastore S B A_b1 (by decide) (by decide) g_b1 at_42 ?_
  intro T h S W A_b1
  replace A_b1 : Ary Z h b1 .byte 8 (aup (fun i => (.int ((aup (aup (aup (fun _ => 0) 0 (nar .byte q0.toInt32.toInt8.toInt32)) 1 (nar .byte ((q0.toUInt64 >>> ((8 : Int32) &&& 0x3f).toInt64.toUInt64).toInt64).toInt32.toInt8.toInt32)) 2 (nar .byte ((q0.toUInt64 >>> ((16 : Int32) &&& 0x3f).toInt64.toUInt64).toInt64).toInt32.toInt8.toInt32)) i))) 3 (.int (nar .byte ((q0.toUInt64 >>> ((24 : Int32) &&& 0x3f).toInt64.toUInt64).toInt64).toInt32.toInt8.toInt32))) := A_b1
  rw [aup_int] at A_b1
  show Goes _ _ _ _ T (mkF me_ 43 #[.val (.long q0), .second, .val (.int p1), .val (.int p2), .val (.int p3), .val (.ref b1), .unset, .unset, .unset, .unset] [])
  refine Goes.go (fun _ => XS.aload S.here B.x rfl (B.d at_43) rfl rfl) ?_
  show Goes _ _ _ _ T (mkF me_ 45 #[.val (.long q0), .second, .val (.int p1), .val (.int p2), .val (.int p3), .val (.ref b1), .unset, .unset, .unset, .unset] [(.ref b1)])
  refine Goes.go (fun _ => XS.iconst S.here B.x rfl (B.d at_45)) ?_
  show Goes _ _ _ _ T (mkF me_ 46 #[.val (.long q0), .second, .val (.int p1), .val (.int p2), .val (.int p3), .val (.ref b1), .unset, .unset, .unset, .unset] [(.int (4 : Int32)), (.ref b1)])
  refine Goes.go (fun _ => XS.lloadN S.here B.x rfl (B.d at_46) rfl) ?_
  show Goes _ _ _ _ T (mkF me_ 47 #[.val (.long q0), .second, .val (.int p1), .val (.int p2), .val (.int p3), .val (.ref b1), .unset, .unset, .unset, .unset] [(.long q0), (.int (4 : Int32)), (.ref b1)])
  refine Goes.go (fun _ => XS.bipush S.here B.x rfl (B.d at_47)) ?_
  show Goes _ _ _ _ T (mkF me_ 49 #[.val (.long q0), .second, .val (.int p1), .val (.int p2), .val (.int p3), .val (.ref b1), .unset, .unset, .unset, .unset] [(.int (32 : Int32)), (.long q0), (.int (4 : Int32)), (.ref b1)])
  refine Goes.go (fun _ => XS.lushr S.here B.x rfl (B.d at_49) rfl) ?_
  show Goes _ _ _ _ T (mkF me_ 50 #[.val (.long q0), .second, .val (.int p1), .val (.int p2), .val (.int p3), .val (.ref b1), .unset, .unset, .unset, .unset] [(.long ((q0.toUInt64 >>> ((32 : Int32) &&& 0x3f).toInt64.toUInt64).toInt64)), (.int (4 : Int32)), (.ref b1)])
  refine Goes.go (fun _ => XS.l2i S.here B.x rfl (B.d at_50) rfl) ?_
  show Goes _ _ _ _ T (mkF me_ 51 #[.val (.long q0), .second, .val (.int p1), .val (.int p2), .val (.int p3), .val (.ref b1), .unset, .unset, .unset, .unset] [(.int ((q0.toUInt64 >>> ((32 : Int32) &&& 0x3f).toInt64.toUInt64).toInt64).toInt32), (.int (4 : Int32)), (.ref b1)])
  refine Goes.go (fun _ => XS.i2b S.here B.x rfl (B.d at_51) rfl) ?_
  show Goes _ _ _ _ T (mkF me_ 52 #[.val (.long q0), .second, .val (.int p1), .val (.int p2), .val (.int p3), .val (.ref b1), .unset, .unset, .unset, .unset] [(.int ((q0.toUInt64 >>> ((32 : Int32) &&& 0x3f).toInt64.toUInt64).toInt64).toInt32.toInt8.toInt32), (.int (4 : Int32)), (.ref b1)])
  refine Goes.bastore S B A_b1 (by decide) (by decide) g_b1 at_52 ?_
  intro T h S W A_b1
  replace A_b1 : Ary Z h b1 .byte 8 (aup (fun i => (.int ((aup (aup (aup (aup (fun _ => 0) 0 (nar .byte q0.toInt32.toInt8.toInt32)) 1 (nar .byte ((q0.toUInt64 >>> ((8 : Int32) &&& 0x3f).toInt64.toUInt64).toInt64).toInt32.toInt8.toInt32)) 2 (nar .byte ((q0.toUInt64 >>> ((16 : Int32) &&& 0x3f).toInt64.toUInt64).toInt64).toInt32.toInt8.toInt32)) 3 (nar .byte ((q0.toUInt64 >>> ((24 : Int32) &&& 0x3f).toInt64.toUInt64).toInt64).toInt32.toInt8.toInt32)) i))) 4 (.int (nar .byte ((q0.toUInt64 >>> ((32 : Int32) &&& 0x3f).toInt64.toUInt64).toInt64).toInt32.toInt8.toInt32))) := A_b1
  rw [aup_int] at A_b1
  show Goes _ _ _ _ T (mkF me_ 53 #[.val (.long q0), .second, .val (.int p1), .val (.int p2), .val (.int p3), .val (.ref b1), .unset, .unset, .unset, .unset] [])
  refine Goes.go (fun _ => XS.aload S.here B.x rfl (B.d at_53) rfl rfl) ?_
  show Goes _ _ _ _ T (mkF me_ 55 #[.val (.long q0), .second, .val (.int p1), .val (.int p2), .val (.int p3), .val (.ref b1), .unset, .unset, .unset, .unset] [(.ref b1)])
  refine Goes.go (fun _ => XS.iconst S.here B.x rfl (B.d at_55)) ?_
  show Goes _ _ _ _ T (mkF me_ 56 #[.val (.long q0), .second, .val (.int p1), .val (.int p2), .val (.int p3), .val (.ref b1), .unset, .unset, .unset, .unset] [(.int (5 : Int32)), (.ref b1)])
  refine Goes.go (fun _ => XS.lloadN S.here B.x rfl (B.d at_56) rfl) ?_
  show Goes _ _ _ _ T (mkF me_ 57 #[.val (.long q0), .second, .val (.int p1), .val (.int p2), .val (.int p3), .val (.ref b1), .unset, .unset, .unset, .unset] [(.long q0), (.int (5 : Int32)), (.ref b1)])
  refine Goes.go (fun _ => XS.bipush S.here B.x rfl (B.d at_57)) ?_
  show Goes _ _ _ _ T (mkF me_ 59 #[.val (.long q0), .second, .val (.int p1), .val (.int p2), .val (.int p3), .val (.ref b1), .unset, .unset, .unset, .unset] [(.int (40 : Int32)), (.long q0), (.int (5 : Int32)), (.ref b1)])
  refine Goes.go (fun _ => XS.lushr S.here B.x rfl (B.d at_59) rfl) ?_
  show Goes _ _ _ _ T (mkF me_ 60 #[.val (.long q0), .second, .val (.int p1), .val (.int p2), .val (.int p3), .val (.ref b1), .unset, .unset, .unset, .unset] [(.long ((q0.toUInt64 >>> ((40 : Int32) &&& 0x3f).toInt64.toUInt64).toInt64)), (.int (5 : Int32)), (.ref b1)])
  refine Goes.go (fun _ => XS.l2i S.here B.x rfl (B.d at_60) rfl) ?_
  show Goes _ _ _ _ T (mkF me_ 61 #[.val (.long q0), .second, .val (.int p1), .val (.int p2), .val (.int p3), .val (.ref b1), .unset, .unset, .unset, .unset] [(.int ((q0.toUInt64 >>> ((40 : Int32) &&& 0x3f).toInt64.toUInt64).toInt64).toInt32), (.int (5 : Int32)), (.ref b1)])
  refine Goes.go (fun _ => XS.i2b S.here B.x rfl (B.d at_61) rfl) ?_
  show Goes _ _ _ _ T (mkF me_ 62 #[.val (.long q0), .second, .val (.int p1), .val (.int p2), .val (.int p3), .val (.ref b1), .unset, .unset, .unset, .unset] [(.int ((q0.toUInt64 >>> ((40 : Int32) &&& 0x3f).toInt64.toUInt64).toInt64).toInt32.toInt8.toInt32), (.int (5 : Int32)), (.ref b1)])
  refine Goes.bastore S B A_b1 (by decide) (by decide) g_b1 at_62 ?_
  intro T h S W A_b1
  replace A_b1 : Ary Z h b1 .byte 8 (aup (fun i => (.int ((aup (aup (aup (aup (aup (fun _ => 0) 0 (nar .byte q0.toInt32.toInt8.toInt32)) 1 (nar .byte ((q0.toUInt64 >>> ((8 : Int32) &&& 0x3f).toInt64.toUInt64).toInt64).toInt32.toInt8.toInt32)) 2 (nar .byte ((q0.toUInt64 >>> ((16 : Int32) &&& 0x3f).toInt64.toUInt64).toInt64).toInt32.toInt8.toInt32)) 3 (nar .byte ((q0.toUInt64 >>> ((24 : Int32) &&& 0x3f).toInt64.toUInt64).toInt64).toInt32.toInt8.toInt32)) 4 (nar .byte ((q0.toUInt64 >>> ((32 : Int32) &&& 0x3f).toInt64.toUInt64).toInt64).toInt32.toInt8.toInt32)) i))) 5 (.int (nar .byte ((q0.toUInt64 >>> ((40 : Int32) &&& 0x3f).toInt64.toUInt64).toInt64).toInt32.toInt8.toInt32))) := A_b1
  rw [aup_int] at A_b1
  show Goes _ _ _ _ T (mkF me_ 63 #[.val (.long q0), .second, .val (.int p1), .val (.int p2), .val (.int p3), .val (.ref b1), .unset, .unset, .unset, .unset] [])
  refine Goes.go (fun _ => XS.aload S.here B.x rfl (B.d at_63) rfl rfl) ?_
  show Goes _ _ _ _ T (mkF me_ 65 #[.val (.long q0), .second, .val (.int p1), .val (.int p2), .val (.int p3), .val (.ref b1), .unset, .unset, .unset, .unset] [(.ref b1)])
  refine Goes.go (fun _ => XS.bipush S.here B.x rfl (B.d at_65)) ?_
  show Goes _ _ _ _ T (mkF me_ 67 #[.val (.long q0), .second, .val (.int p1), .val (.int p2), .val (.int p3), .val (.ref b1), .unset, .unset, .unset, .unset] [(.int (6 : Int32)), (.ref b1)])
  refine Goes.go (fun _ => XS.lloadN S.here B.x rfl (B.d at_67) rfl) ?_
  show Goes _ _ _ _ T (mkF me_ 68 #[.val (.long q0), .second, .val (.int p1), .val (.int p2), .val (.int p3), .val (.ref b1), .unset, .unset, .unset, .unset] [(.long q0), (.int (6 : Int32)), (.ref b1)])
  refine Goes.go (fun _ => XS.bipush S.here B.x rfl (B.d at_68)) ?_
  show Goes _ _ _ _ T (mkF me_ 70 #[.val (.long q0), .second, .val (.int p1), .val (.int p2), .val (.int p3), .val (.ref b1), .unset, .unset, .unset, .unset] [(.int (48 : Int32)), (.long q0), (.int (6 : Int32)), (.ref b1)])
  refine Goes.go (fun _ => XS.lushr S.here B.x rfl (B.d at_70) rfl) ?_
  show Goes _ _ _ _ T (mkF me_ 71 #[.val (.long q0), .second, .val (.int p1), .val (.int p2), .val (.int p3), .val (.ref b1), .unset, .unset, .unset, .unset] [(.long ((q0.toUInt64 >>> ((48 : Int32) &&& 0x3f).toInt64.toUInt64).toInt64)), (.int (6 : Int32)), (.ref b1)])
  refine Goes.go (fun _ => XS.l2i S.here B.x rfl (B.d at_71) rfl) ?_
  show Goes _ _ _ _ T (mkF me_ 72 #[.val (.long q0), .second, .val (.int p1), .val (.int p2), .val (.int p3), .val (.ref b1), .unset, .unset, .unset, .unset] [(.int ((q0.toUInt64 >>> ((48 : Int32) &&& 0x3f).toInt64.toUInt64).toInt64).toInt32), (.int (6 : Int32)), (.ref b1)])
  refine Goes.go (fun _ => XS.i2b S.here B.x rfl (B.d at_72) rfl) ?_
  show Goes _ _ _ _ T (mkF me_ 73 #[.val (.long q0), .second, .val (.int p1), .val (.int p2), .val (.int p3), .val (.ref b1), .unset, .unset, .unset, .unset] [(.int ((q0.toUInt64 >>> ((48 : Int32) &&& 0x3f).toInt64.toUInt64).toInt64).toInt32.toInt8.toInt32), (.int (6 : Int32)), (.ref b1)])
  refine Goes.bastore S B A_b1 (by decide) (by decide) g_b1 at_73 ?_
  intro T h S W A_b1
  replace A_b1 : Ary Z h b1 .byte 8 (aup (fun i => (.int ((aup (aup (aup (aup (aup (aup (fun _ => 0) 0 (nar .byte q0.toInt32.toInt8.toInt32)) 1 (nar .byte ((q0.toUInt64 >>> ((8 : Int32) &&& 0x3f).toInt64.toUInt64).toInt64).toInt32.toInt8.toInt32)) 2 (nar .byte ((q0.toUInt64 >>> ((16 : Int32) &&& 0x3f).toInt64.toUInt64).toInt64).toInt32.toInt8.toInt32)) 3 (nar .byte ((q0.toUInt64 >>> ((24 : Int32) &&& 0x3f).toInt64.toUInt64).toInt64).toInt32.toInt8.toInt32)) 4 (nar .byte ((q0.toUInt64 >>> ((32 : Int32) &&& 0x3f).toInt64.toUInt64).toInt64).toInt32.toInt8.toInt32)) 5 (nar .byte ((q0.toUInt64 >>> ((40 : Int32) &&& 0x3f).toInt64.toUInt64).toInt64).toInt32.toInt8.toInt32)) i))) 6 (.int (nar .byte ((q0.toUInt64 >>> ((48 : Int32) &&& 0x3f).toInt64.toUInt64).toInt64).toInt32.toInt8.toInt32))) := A_b1
  rw [aup_int] at A_b1
  show Goes _ _ _ _ T (mkF me_ 74 #[.val (.long q0), .second, .val (.int p1), .val (.int p2), .val (.int p3), .val (.ref b1), .unset, .unset, .unset, .unset] [])
  refine Goes.go (fun _ => XS.aload S.here B.x rfl (B.d at_74) rfl rfl) ?_
  show Goes _ _ _ _ T (mkF me_ 76 #[.val (.long q0), .second, .val (.int p1), .val (.int p2), .val (.int p3), .val (.ref b1), .unset, .unset, .unset, .unset] [(.ref b1)])
  refine Goes.go (fun _ => XS.bipush S.here B.x rfl (B.d at_76)) ?_
  show Goes _ _ _ _ T (mkF me_ 78 #[.val (.long q0), .second, .val (.int p1), .val (.int p2), .val (.int p3), .val (.ref b1), .unset, .unset, .unset, .unset] [(.int (7 : Int32)), (.ref b1)])
  refine Goes.go (fun _ => XS.lloadN S.here B.x rfl (B.d at_78) rfl) ?_
  show Goes _ _ _ _ T (mkF me_ 79 #[.val (.long q0), .second, .val (.int p1), .val (.int p2), .val (.int p3), .val (.ref b1), .unset, .unset, .unset, .unset] [(.long q0), (.int (7 : Int32)), (.ref b1)])
  refine Goes.go (fun _ => XS.bipush S.here B.x rfl (B.d at_79)) ?_
  show Goes _ _ _ _ T (mkF me_ 81 #[.val (.long q0), .second, .val (.int p1), .val (.int p2), .val (.int p3), .val (.ref b1), .unset, .unset, .unset, .unset] [(.int (56 : Int32)), (.long q0), (.int (7 : Int32)), (.ref b1)])
  refine Goes.go (fun _ => XS.lushr S.here B.x rfl (B.d at_81) rfl) ?_
  show Goes _ _ _ _ T (mkF me_ 82 #[.val (.long q0), .second, .val (.int p1), .val (.int p2), .val (.int p3), .val (.ref b1), .unset, .unset, .unset, .unset] [(.long ((q0.toUInt64 >>> ((56 : Int32) &&& 0x3f).toInt64.toUInt64).toInt64)), (.int (7 : Int32)), (.ref b1)])
  refine Goes.go (fun _ => XS.l2i S.here B.x rfl (B.d at_82) rfl) ?_
  show Goes _ _ _ _ T (mkF me_ 83 #[.val (.long q0), .second, .val (.int p1), .val (.int p2), .val (.int p3), .val (.ref b1), .unset, .unset, .unset, .unset] [(.int ((q0.toUInt64 >>> ((56 : Int32) &&& 0x3f).toInt64.toUInt64).toInt64).toInt32), (.int (7 : Int32)), (.ref b1)])
  refine Goes.go (fun _ => XS.i2b S.here B.x rfl (B.d at_83) rfl) ?_
  show Goes _ _ _ _ T (mkF me_ 84 #[.val (.long q0), .second, .val (.int p1), .val (.int p2), .val (.int p3), .val (.ref b1), .unset, .unset, .unset, .unset] [(.int ((q0.toUInt64 >>> ((56 : Int32) &&& 0x3f).toInt64.toUInt64).toInt64).toInt32.toInt8.toInt32), (.int (7 : Int32)), (.ref b1)])
  refine Goes.bastore S B A_b1 (by decide) (by decide) g_b1 at_84 ?_
  intro T h S W A_b1
  replace A_b1 : Ary Z h b1 .byte 8 (aup (fun i => (.int ((aup (aup (aup (aup (aup (aup (aup (fun _ => 0) 0 (nar .byte q0.toInt32.toInt8.toInt32)) 1 (nar .byte ((q0.toUInt64 >>> ((8 : Int32) &&& 0x3f).toInt64.toUInt64).toInt64).toInt32.toInt8.toInt32)) 2 (nar .byte ((q0.toUInt64 >>> ((16 : Int32) &&& 0x3f).toInt64.toUInt64).toInt64).toInt32.toInt8.toInt32)) 3 (nar .byte ((q0.toUInt64 >>> ((24 : Int32) &&& 0x3f).toInt64.toUInt64).toInt64).toInt32.toInt8.toInt32)) 4 (nar .byte ((q0.toUInt64 >>> ((32 : Int32) &&& 0x3f).toInt64.toUInt64).toInt64).toInt32.toInt8.toInt32)) 5 (nar .byte ((q0.toUInt64 >>> ((40 : Int32) &&& 0x3f).toInt64.toUInt64).toInt64).toInt32.toInt8.toInt32)) 6 (nar .byte ((q0.toUInt64 >>> ((48 : Int32) &&& 0x3f).toInt64.toUInt64).toInt64).toInt32.toInt8.toInt32)) i))) 7 (.int (nar .byte ((q0.toUInt64 >>> ((56 : Int32) &&& 0x3f).toInt64.toUInt64).toInt64).toInt32.toInt8.toInt32))) := A_b1
  rw [aup_int] at A_b1
  show Goes _ _ _ _ T (mkF me_ 85 #[.val (.long q0), .second, .val (.int p1), .val (.int p2), .val (.int p3), .val (.ref b1), .unset, .unset, .unset, .unset] [])
  obtain ⟨F, hF⟩ : ∃ F, F = (aup (aup (aup (aup (aup (aup (aup (aup (fun _ => 0) 0 (nar .byte q0.toInt32.toInt8.toInt32)) 1 (nar .byte ((q0.toUInt64 >>> ((8 : Int32) &&& 0x3f).toInt64.toUInt64).toInt64).toInt32.toInt8.toInt32)) 2 (nar .byte ((q0.toUInt64 >>> ((16 : Int32) &&& 0x3f).toInt64.toUInt64).toInt64).toInt32.toInt8.toInt32)) 3 (nar .byte ((q0.toUInt64 >>> ((24 : Int32) &&& 0x3f).toInt64.toUInt64).toInt64).toInt32.toInt8.toInt32)) 4 (nar .byte ((q0.toUInt64 >>> ((32 : Int32) &&& 0x3f).toInt64.toUInt64).toInt64).toInt32.toInt8.toInt32)) 5 (nar .byte ((q0.toUInt64 >>> ((40 : Int32) &&& 0x3f).toInt64.toUInt64).toInt64).toInt32.toInt8.toInt32)) 6 (nar .byte ((q0.toUInt64 >>> ((48 : Int32) &&& 0x3f).toInt64.toUInt64).toInt64).toInt32.toInt8.toInt32)) 7 (nar .byte ((q0.toUInt64 >>> ((56 : Int32) &&& 0x3f).toInt64.toUInt64).toInt64).toInt32.toInt8.toInt32)) := ⟨_, rfl⟩
  rw [← hF] at A_b1
  have hB : ∀ i, nar .byte (F i) = F i := by
    rw [hF]
    exact (own_tb (own_tb (own_tb (own_tb (own_tb (own_tb (own_tb (own_tb (fun _ => by decide) (own_nb _)) (own_nb _)) (own_nb _)) (own_nb _)) (own_nb _)) (own_nb _)) (own_nb _)) (own_nb _))
  refine Goes.go (fun _ => XS.iconst S.here B.x rfl (B.d at_85)) ?_
  show Goes _ _ _ _ T (mkF me_ 86 #[.val (.long q0), .second, .val (.int p1), .val (.int p2), .val (.int p3), .val (.ref b1), .unset, .unset, .unset, .unset] [(.int (1 : Int32))])
  refine Goes.go (fun _ => XS.iloadN S.here B.x rfl (B.d at_86) rfl) ?_
  show Goes _ _ _ _ T (mkF me_ 87 #[.val (.long q0), .second, .val (.int p1), .val (.int p2), .val (.int p3), .val (.ref b1), .unset, .unset, .unset, .unset] [(.int p1), (.int (1 : Int32))])
  refine Goes.ldcI S B (w1 hw) at_87 ?_
  show Goes _ _ _ _ T (mkF me_ 89 #[.val (.long q0), .second, .val (.int p1), .val (.int p2), .val (.int p3), .val (.ref b1), .unset, .unset, .unset, .unset] [(.int (2147483647 : Int32)), (.int p1), (.int (1 : Int32))])
  refine Goes.go (fun _ => XS.iand S.here B.x rfl (B.d at_89) rfl) ?_
  show Goes _ _ _ _ T (mkF me_ 90 #[.val (.long q0), .second, .val (.int p1), .val (.int p2), .val (.int p3), .val (.ref b1), .unset, .unset, .unset, .unset] [(.int (p1 &&& (2147483647 : Int32))), (.int (1 : Int32))])
  refine Goes.go (fun _ => XS.bipush S.here B.x rfl (B.d at_90)) ?_
  show Goes _ _ _ _ T (mkF me_ 92 #[.val (.long q0), .second, .val (.int p1), .val (.int p2), .val (.int p3), .val (.ref b1), .unset, .unset, .unset, .unset] [(.int (7 : Int32)), (.int (p1 &&& (2147483647 : Int32))), (.int (1 : Int32))])
  refine Goes.irem S B at_92 (by decide) ?_
  show Goes _ _ _ _ T (mkF me_ 93 #[.val (.long q0), .second, .val (.int p1), .val (.int p2), .val (.int p3), .val (.ref b1), .unset, .unset, .unset, .unset] [(.int ((p1 &&& (2147483647 : Int32)) % (7 : Int32))), (.int (1 : Int32))])
  refine Goes.go (fun _ => XS.iadd S.here B.x rfl (B.d at_93) rfl) ?_
  show Goes _ _ _ _ T (mkF me_ 94 #[.val (.long q0), .second, .val (.int p1), .val (.int p2), .val (.int p3), .val (.ref b1), .unset, .unset, .unset, .unset] [(.int ((1 : Int32) + ((p1 &&& (2147483647 : Int32)) % (7 : Int32))))])
  generalize hv2 : ((1 : Int32) + ((p1 &&& (2147483647 : Int32)) % (7 : Int32))) = v2
  refine Goes.go (fun _ => XS.istore S.here B.x rfl (B.d at_94) rfl (l' := #[.val (.long q0), .second, .val (.int p1), .val (.int p2), .val (.int p3), .val (.ref b1), .val (.int v2), .unset, .unset, .unset]) rfl) ?_
  show Goes _ _ _ _ T (mkF me_ 96 #[.val (.long q0), .second, .val (.int p1), .val (.int p2), .val (.int p3), .val (.ref b1), .val (.int v2), .unset, .unset, .unset] [])
  refine Goes.go (fun _ => XS.iloadN S.here B.x rfl (B.d at_96) rfl) ?_
  show Goes _ _ _ _ T (mkF me_ 97 #[.val (.long q0), .second, .val (.int p1), .val (.int p2), .val (.int p3), .val (.ref b1), .val (.int v2), .unset, .unset, .unset] [(.int p2)])
  refine Goes.go (fun _ => XS.iconst S.here B.x rfl (B.d at_97)) ?_
  show Goes _ _ _ _ T (mkF me_ 98 #[.val (.long q0), .second, .val (.int p1), .val (.int p2), .val (.int p3), .val (.ref b1), .val (.int v2), .unset, .unset, .unset] [(.int (3 : Int32)), (.int p2)])
  refine Goes.go (fun _ => XS.iand S.here B.x rfl (B.d at_98) rfl) ?_
  show Goes _ _ _ _ T (mkF me_ 99 #[.val (.long q0), .second, .val (.int p1), .val (.int p2), .val (.int p3), .val (.ref b1), .val (.int v2), .unset, .unset, .unset] [(.int (p2 &&& (3 : Int32)))])
  generalize hv3 : (p2 &&& (3 : Int32)) = v3
  refine Goes.go (fun _ => XS.istore S.here B.x rfl (B.d at_99) rfl (l' := #[.val (.long q0), .second, .val (.int p1), .val (.int p2), .val (.int p3), .val (.ref b1), .val (.int v2), .val (.int v3), .unset, .unset]) rfl) ?_
  show Goes _ _ _ _ T (mkF me_ 101 #[.val (.long q0), .second, .val (.int p1), .val (.int p2), .val (.int p3), .val (.ref b1), .val (.int v2), .val (.int v3), .unset, .unset] [])
  refine Goes.go (fun _ => XS.iload S.here B.x rfl (B.d at_101) rfl) ?_
  show Goes _ _ _ _ T (mkF me_ 103 #[.val (.long q0), .second, .val (.int p1), .val (.int p2), .val (.int p3), .val (.ref b1), .val (.int v2), .val (.int v3), .unset, .unset] [(.int p3)])
  refine Goes.go (fun _ => XS.iconst S.here B.x rfl (B.d at_103)) ?_
  show Goes _ _ _ _ T (mkF me_ 104 #[.val (.long q0), .second, .val (.int p1), .val (.int p2), .val (.int p3), .val (.ref b1), .val (.int v2), .val (.int v3), .unset, .unset] [(.int (1 : Int32)), (.int p3)])
  refine Goes.go (fun _ => XS.iand S.here B.x rfl (B.d at_104) rfl) ?_
  show Goes _ _ _ _ T (mkF me_ 105 #[.val (.long q0), .second, .val (.int p1), .val (.int p2), .val (.int p3), .val (.ref b1), .val (.int v2), .val (.int v3), .unset, .unset] [(.int (p3 &&& (1 : Int32)))])
  refine Goes.dia (P := ¬ ((p3 &&& (1 : Int32)) = (0 : Int32))) (mk := fun z => (mkF me_ 113 #[.val (.long q0), .second, .val (.int p1), .val (.int p2), .val (.int p3), .val (.ref b1), .val (.int v2), .val (.int v3), .unset, .unset] [(.int z)])) (fun hc105 kk => ?_) (fun hc105 kk => ?_) ?_
  · skip
    refine Goes.go (fun _ => XS.ifNo S.here B.x rfl (B.d at_105) rfl ((if0 _ _).trans (feq hc105).1)) ?_
    show Goes _ _ _ _ T (mkF me_ 108 #[.val (.long q0), .second, .val (.int p1), .val (.int p2), .val (.int p3), .val (.ref b1), .val (.int v2), .val (.int v3), .unset, .unset] [])
    refine Goes.go (fun _ => XS.iconst S.here B.x rfl (B.d at_108)) ?_
    show Goes _ _ _ _ T (mkF me_ 109 #[.val (.long q0), .second, .val (.int p1), .val (.int p2), .val (.int p3), .val (.ref b1), .val (.int v2), .val (.int v3), .unset, .unset] [(.int (1 : Int32))])
    refine Goes.go (fun _ => XS.goto S.here B.x rfl (pc0 := 109) (pc' := 113) rfl (B.d at_109) (by decide) (by decide)) ?_
    show Goes _ _ _ _ T (mkF me_ 113 #[.val (.long q0), .second, .val (.int p1), .val (.int p2), .val (.int p3), .val (.ref b1), .val (.int v2), .val (.int v3), .unset, .unset] [(.int (1 : Int32))])
    exact kk
  · skip
    refine Goes.go (fun _ => XS.ifYes S.here B.x rfl (pc0 := 105) (pc' := 112) rfl (B.d at_105) rfl ((if0 _ _).trans (teq (Classical.not_not.mp hc105)).1) (by decide) (by decide)) ?_
    show Goes _ _ _ _ T (mkF me_ 112 #[.val (.long q0), .second, .val (.int p1), .val (.int p2), .val (.int p3), .val (.ref b1), .val (.int v2), .val (.int v3), .unset, .unset] [])
    refine Goes.go (fun _ => XS.iconst S.here B.x rfl (B.d at_112)) ?_
    show Goes _ _ _ _ T (mkF me_ 113 #[.val (.long q0), .second, .val (.int p1), .val (.int p2), .val (.int p3), .val (.ref b1), .val (.int v2), .val (.int v3), .unset, .unset] [(.int (0 : Int32))])
    exact kk
  show Goes _ _ _ _ T (mkF me_ 113 #[.val (.long q0), .second, .val (.int p1), .val (.int p2), .val (.int p3), .val (.ref b1), .val (.int v2), .val (.int v3), .unset, .unset] [(.int (bi (¬ ((p3 &&& (1 : Int32)) = (0 : Int32)))))])
  refine Goes.go (fun _ => XS.istore S.here B.x rfl (B.d at_113) rfl (l' := #[.val (.long q0), .second, .val (.int p1), .val (.int p2), .val (.int p3), .val (.ref b1), .val (.int v2), .val (.int v3), .val (.int (bi (¬ ((p3 &&& (1 : Int32)) = (0 : Int32))))), .unset]) rfl) ?_
  show Goes _ _ _ _ T (mkF me_ 115 #[.val (.long q0), .second, .val (.int p1), .val (.int p2), .val (.int p3), .val (.ref b1), .val (.int v2), .val (.int v3), .val (.int (bi (¬ ((p3 &&& (1 : Int32)) = (0 : Int32))))), .unset] [])
  refine Goes.go (fun _ => XS.aload S.here B.x rfl (B.d at_115) rfl rfl) ?_
  show Goes _ _ _ _ T (mkF me_ 117 #[.val (.long q0), .second, .val (.int p1), .val (.int p2), .val (.int p3), .val (.ref b1), .val (.int v2), .val (.int v3), .val (.int (bi (¬ ((p3 &&& (1 : Int32)) = (0 : Int32))))), .unset] [(.ref b1)])
  refine Goes.go (fun _ => XS.iload S.here B.x rfl (B.d at_117) rfl) ?_
  show Goes _ _ _ _ T (mkF me_ 119 #[.val (.long q0), .second, .val (.int p1), .val (.int p2), .val (.int p3), .val (.ref b1), .val (.int v2), .val (.int v3), .val (.int (bi (¬ ((p3 &&& (1 : Int32)) = (0 : Int32))))), .unset] [(.int v2), (.ref b1)])
  refine Goes.go (fun _ => XS.iload S.here B.x rfl (B.d at_119) rfl) ?_
  show Goes _ _ _ _ T (mkF me_ 121 #[.val (.long q0), .second, .val (.int p1), .val (.int p2), .val (.int p3), .val (.ref b1), .val (.int v2), .val (.int v3), .val (.int (bi (¬ ((p3 &&& (1 : Int32)) = (0 : Int32))))), .unset] [(.int v3), (.int v2), (.ref b1)])
  refine Goes.go (fun _ => XS.iload S.here B.x rfl (B.d at_121) rfl) ?_
  show Goes _ _ _ _ T (mkF me_ 123 #[.val (.long q0), .second, .val (.int p1), .val (.int p2), .val (.int p3), .val (.ref b1), .val (.int v2), .val (.int v3), .val (.int (bi (¬ ((p3 &&& (1 : Int32)) = (0 : Int32))))), .unset] [(.int (bi (¬ ((p3 &&& (1 : Int32)) = (0 : Int32))))), (.int v3), (.int v2), (.ref b1)])
  have zle := S.le
  refine Goes.callS (argsL := [(.ref b1), (.int v2), (.int v3), (.int (bi (¬ ((p3 &&& (1 : Int32)) = (0 : Int32)))))]) (rest := []) (W := 0) S B (rm_cws l Z aw hw b1 v2 v3 (bi (¬ ((p3 &&& (1 : Int32)) = (0 : Int32)))) F _ n0 A_b1 (own_ln hv2).1 (own_cnt hv3) (fun k j a b c d => own_ix (own_ln hv2).2 a b c d)) (w2 hw) (w3 hw) (w4 hw) (w5 hw) (by decide) (by decide) (by decide) (by decide) (by decide) rfl (lenOf pd_1 rfl) rfl (Nat.le_of_eq rfl) at_123 ?_
  intro v T h S hQ
  obtain ⟨b4, u5, rfl, zb, Kc, A_b4', hw0_123, hw1_123, hw2_123⟩ := hQ
  have ne_b1__b4 : b1 ≠ b4 := Nat.ne_of_lt (Nat.lt_of_lt_of_le A_b1.lt zb)
  have g_b4 : n0 ≤ b4 := Nat.le_trans zle zb
  replace A_b1 := A_b1.keep Kc nin0
  have A_b4 := A_b4'
  show Goes _ _ _ _ T (mkF me_ 126 #[.val (.long q0), .second, .val (.int p1), .val (.int p2), .val (.int p3), .val (.ref b1), .val (.int v2), .val (.int v3), .val (.int (bi (¬ ((p3 &&& (1 : Int32)) = (0 : Int32))))), .unset] [(.ref b4)])
  refine Goes.go (fun _ => XS.astore S.here B.x rfl (B.d at_126) rfl rfl (l' := #[.val (.long q0), .second, .val (.int p1), .val (.int p2), .val (.int p3), .val (.ref b1), .val (.int v2), .val (.int v3), .val (.int (bi (¬ ((p3 &&& (1 : Int32)) = (0 : Int32))))), .val (.ref b4)]) rfl) ?_
  show Goes _ _ _ _ T (mkF me_ 128 #[.val (.long q0), .second, .val (.int p1), .val (.int p2), .val (.int p3), .val (.ref b1), .val (.int v2), .val (.int v3), .val (.int (bi (¬ ((p3 &&& (1 : Int32)) = (0 : Int32))))), .val (.ref b4)] [])
  refine Goes.go (fun _ => XS.aload S.here B.x rfl (B.d at_128) rfl rfl) ?_
  show Goes _ _ _ _ T (mkF me_ 130 #[.val (.long q0), .second, .val (.int p1), .val (.int p2), .val (.int p3), .val (.ref b1), .val (.int v2), .val (.int v3), .val (.int (bi (¬ ((p3 &&& (1 : Int32)) = (0 : Int32))))), .val (.ref b4)] [(.ref b4)])
  refine Goes.alen S B A_b4 (z := v3) (back32 (own_cnn hv3)).1 at_130 ?_
  show Goes _ _ _ _ T (mkF me_ 131 #[.val (.long q0), .second, .val (.int p1), .val (.int p2), .val (.int p3), .val (.ref b1), .val (.int v2), .val (.int v3), .val (.int (bi (¬ ((p3 &&& (1 : Int32)) = (0 : Int32))))), .val (.ref b4)] [(.int v3)])
  refine Goes.go (fun _ => XS.iload S.here B.x rfl (B.d at_131) rfl) ?_
  show Goes _ _ _ _ T (mkF me_ 133 #[.val (.long q0), .second, .val (.int p1), .val (.int p2), .val (.int p3), .val (.ref b1), .val (.int v2), .val (.int v3), .val (.int (bi (¬ ((p3 &&& (1 : Int32)) = (0 : Int32))))), .val (.ref b4)] [(.int v3), (.int v3)])
  refine Goes.go (fun _ => XS.icmpYes S.here B.x rfl (pc0 := 133) (pc' := 138) rfl (B.d at_133) rfl (teq (rfl : v3 = v3)).1 (by decide) (by decide)) ?_
  show Goes _ _ _ _ T (mkF me_ 138 #[.val (.long q0), .second, .val (.int p1), .val (.int p2), .val (.int p3), .val (.ref b1), .val (.int v2), .val (.int v3), .val (.int (bi (¬ ((p3 &&& (1 : Int32)) = (0 : Int32))))), .val (.ref b4)] [])
  refine Goes.go (fun _ => XS.iload S.here B.x rfl (B.d at_138) rfl) ?_
  show Goes _ _ _ _ T (mkF me_ 140 #[.val (.long q0), .second, .val (.int p1), .val (.int p2), .val (.int p3), .val (.ref b1), .val (.int v2), .val (.int v3), .val (.int (bi (¬ ((p3 &&& (1 : Int32)) = (0 : Int32))))), .val (.ref b4)] [(.int v3)])
  by_cases hc140 : (0 : Int32) < v3
  · skip
    refine Goes.go (fun _ => XS.ifNo S.here B.x rfl (B.d at_140) rfl ((if0 _ _).trans (tlt hc140).2.2.2)) ?_
    show Goes _ _ _ _ T (mkF me_ 143 #[.val (.long q0), .second, .val (.int p1), .val (.int p2), .val (.int p3), .val (.ref b1), .val (.int v2), .val (.int v3), .val (.int (bi (¬ ((p3 &&& (1 : Int32)) = (0 : Int32))))), .val (.ref b4)] [])
    refine Goes.go (fun _ => XS.aload S.here B.x rfl (B.d at_143) rfl rfl) ?_
    show Goes _ _ _ _ T (mkF me_ 145 #[.val (.long q0), .second, .val (.int p1), .val (.int p2), .val (.int p3), .val (.ref b1), .val (.int v2), .val (.int v3), .val (.int (bi (¬ ((p3 &&& (1 : Int32)) = (0 : Int32))))), .val (.ref b4)] [(.ref b4)])
    refine Goes.go (fun _ => XS.iconst S.here B.x rfl (B.d at_145)) ?_
    show Goes _ _ _ _ T (mkF me_ 146 #[.val (.long q0), .second, .val (.int p1), .val (.int p2), .val (.int p3), .val (.ref b1), .val (.int v2), .val (.int v3), .val (.int (bi (¬ ((p3 &&& (1 : Int32)) = (0 : Int32))))), .val (.ref b4)] [(.int (0 : Int32)), (.ref b4)])
    refine Goes.iaload S B A_b4 (by decide) (own_lt hv3 0 (by decide) hc140) at_146 (v := (.int (u5 0))) rfl ?_
    show Goes _ _ _ _ T (mkF me_ 147 #[.val (.long q0), .second, .val (.int p1), .val (.int p2), .val (.int p3), .val (.ref b1), .val (.int v2), .val (.int v3), .val (.int (bi (¬ ((p3 &&& (1 : Int32)) = (0 : Int32))))), .val (.ref b4)] [(.int (u5 0))])
    refine Goes.go (fun _ => XS.aload S.here B.x rfl (B.d at_147) rfl rfl) ?_
    show Goes _ _ _ _ T (mkF me_ 149 #[.val (.long q0), .second, .val (.int p1), .val (.int p2), .val (.int p3), .val (.ref b1), .val (.int v2), .val (.int v3), .val (.int (bi (¬ ((p3 &&& (1 : Int32)) = (0 : Int32))))), .val (.ref b4)] [(.ref b1), (.int (u5 0))])
    refine Goes.go (fun _ => XS.iload S.here B.x rfl (B.d at_149) rfl) ?_
    show Goes _ _ _ _ T (mkF me_ 151 #[.val (.long q0), .second, .val (.int p1), .val (.int p2), .val (.int p3), .val (.ref b1), .val (.int v2), .val (.int v3), .val (.int (bi (¬ ((p3 &&& (1 : Int32)) = (0 : Int32))))), .val (.ref b4)] [(.int v2), (.ref b1), (.int (u5 0))])
    refine Goes.go (fun _ => XS.iconst S.here B.x rfl (B.d at_151)) ?_
    show Goes _ _ _ _ T (mkF me_ 152 #[.val (.long q0), .second, .val (.int p1), .val (.int p2), .val (.int p3), .val (.ref b1), .val (.int v2), .val (.int v3), .val (.int (bi (¬ ((p3 &&& (1 : Int32)) = (0 : Int32))))), .val (.ref b4)] [(.int (0 : Int32)), (.int v2), (.ref b1), (.int (u5 0))])
    refine Goes.go (fun _ => XS.iload S.here B.x rfl (B.d at_152) rfl) ?_
    show Goes _ _ _ _ T (mkF me_ 154 #[.val (.long q0), .second, .val (.int p1), .val (.int p2), .val (.int p3), .val (.ref b1), .val (.int v2), .val (.int v3), .val (.int (bi (¬ ((p3 &&& (1 : Int32)) = (0 : Int32))))), .val (.ref b4)] [(.int (bi (¬ ((p3 &&& (1 : Int32)) = (0 : Int32))))), (.int (0 : Int32)), (.int v2), (.ref b1), (.int (u5 0))])
    refine Goes.callS (argsL := [(.ref b1), (.int v2), (.int (0 : Int32)), (.int (bi (¬ ((p3 &&& (1 : Int32)) = (0 : Int32)))))]) (rest := [(.int (u5 0))]) (W := 1) S B (rm_ex l Z aw hw b1 v2 (0 : Int32) (bi (¬ ((p3 &&& (1 : Int32)) = (0 : Int32)))) F (F (((4 : Int32) * (0 : Int32)) % v2).toNatClampNeg) (F ((((4 : Int32) * (0 : Int32)) + (1 : Int32)) % v2).toNatClampNeg) (F ((((4 : Int32) * (0 : Int32)) + (2 : Int32)) % v2).toNatClampNeg) (F ((((4 : Int32) * (0 : Int32)) + (3 : Int32)) % v2).toNatClampNeg) _ n0 A_b1 (own_ln hv2).1 (own_ix0 (own_ln hv2).2 (k := 0) (by decide) (by decide)).1 (own_ix0 (own_ln hv2).2 (k := 0) (by decide) (by decide)).2 rfl (own_ix (own_ln hv2).2 (k := 0) (j := 1) (by decide) (by decide) (by decide) (by decide)).1 (own_ix (own_ln hv2).2 (k := 0) (j := 1) (by decide) (by decide) (by decide) (by decide)).2 rfl (own_ix (own_ln hv2).2 (k := 0) (j := 2) (by decide) (by decide) (by decide) (by decide)).1 (own_ix (own_ln hv2).2 (k := 0) (j := 2) (by decide) (by decide) (by decide) (by decide)).2 rfl (own_ix (own_ln hv2).2 (k := 0) (j := 3) (by decide) (by decide) (by decide) (by decide)).1 (own_ix (own_ln hv2).2 (k := 0) (j := 3) (by decide) (by decide) (by decide) (by decide)).2 rfl) (w10 hw) (w11 hw) (w12 hw) (w13 hw) (by decide) (by decide) (by decide) (by decide) (by decide) rfl (lenOf pd_0 rfl) rfl (Nat.le_of_eq rfl) at_154 ?_
    intro v T h S hQ
    obtain ⟨rfl, hh⟩ := hQ
    replace hh := hh.symm
    subst hh
    show Goes _ _ _ _ T (mkF me_ 157 #[.val (.long q0), .second, .val (.int p1), .val (.int p2), .val (.int p3), .val (.ref b1), .val (.int v2), .val (.int v3), .val (.int (bi (¬ ((p3 &&& (1 : Int32)) = (0 : Int32))))), .val (.ref b4)] [(.int (own_ex (bi (¬ ((p3 &&& (1 : Int32)) = (0 : Int32)))) (F (((4 : Int32) * (0 : Int32)) % v2).toNatClampNeg) (F ((((4 : Int32) * (0 : Int32)) + (1 : Int32)) % v2).toNatClampNeg) (F ((((4 : Int32) * (0 : Int32)) + (2 : Int32)) % v2).toNatClampNeg) (F ((((4 : Int32) * (0 : Int32)) + (3 : Int32)) % v2).toNatClampNeg))), (.int (u5 0))])
    refine Goes.go (fun _ => XS.icmpYes S.here B.x rfl (pc0 := 157) (pc' := 162) rfl (B.d at_157) rfl (teq (show (u5 0) = (own_ex (bi (¬ ((p3 &&& (1 : Int32)) = (0 : Int32)))) (F (((4 : Int32) * (0 : Int32)) % v2).toNatClampNeg) (F ((((4 : Int32) * (0 : Int32)) + (1 : Int32)) % v2).toNatClampNeg) (F ((((4 : Int32) * (0 : Int32)) + (2 : Int32)) % v2).toNatClampNeg) (F ((((4 : Int32) * (0 : Int32)) + (3 : Int32)) % v2).toNatClampNeg)) from (hw0_123 hc140).trans (own_same v2 0 F _ hB))).1 (by decide) (by decide)) ?_
    show Goes _ _ _ _ T (mkF me_ 162 #[.val (.long q0), .second, .val (.int p1), .val (.int p2), .val (.int p3), .val (.ref b1), .val (.int v2), .val (.int v3), .val (.int (bi (¬ ((p3 &&& (1 : Int32)) = (0 : Int32))))), .val (.ref b4)] [])
    refine Goes.go (fun _ => XS.iload S.here B.x rfl (B.d at_162) rfl) ?_
    show Goes _ _ _ _ T (mkF me_ 164 #[.val (.long q0), .second, .val (.int p1), .val (.int p2), .val (.int p3), .val (.ref b1), .val (.int v2), .val (.int v3), .val (.int (bi (¬ ((p3 &&& (1 : Int32)) = (0 : Int32))))), .val (.ref b4)] [(.int v3)])
    refine Goes.go (fun _ => XS.iconst S.here B.x rfl (B.d at_164)) ?_
    show Goes _ _ _ _ T (mkF me_ 165 #[.val (.long q0), .second, .val (.int p1), .val (.int p2), .val (.int p3), .val (.ref b1), .val (.int v2), .val (.int v3), .val (.int (bi (¬ ((p3 &&& (1 : Int32)) = (0 : Int32))))), .val (.ref b4)] [(.int (1 : Int32)), (.int v3)])
    by_cases hc165 : (1 : Int32) < v3
    · skip
      refine Goes.go (fun _ => XS.icmpNo S.here B.x rfl (B.d at_165) rfl (tlt hc165).2.2.2) ?_
      show Goes _ _ _ _ T (mkF me_ 168 #[.val (.long q0), .second, .val (.int p1), .val (.int p2), .val (.int p3), .val (.ref b1), .val (.int v2), .val (.int v3), .val (.int (bi (¬ ((p3 &&& (1 : Int32)) = (0 : Int32))))), .val (.ref b4)] [])
      refine Goes.go (fun _ => XS.aload S.here B.x rfl (B.d at_168) rfl rfl) ?_
      show Goes _ _ _ _ T (mkF me_ 170 #[.val (.long q0), .second, .val (.int p1), .val (.int p2), .val (.int p3), .val (.ref b1), .val (.int v2), .val (.int v3), .val (.int (bi (¬ ((p3 &&& (1 : Int32)) = (0 : Int32))))), .val (.ref b4)] [(.ref b4)])
      refine Goes.go (fun _ => XS.iconst S.here B.x rfl (B.d at_170)) ?_
      show Goes _ _ _ _ T (mkF me_ 171 #[.val (.long q0), .second, .val (.int p1), .val (.int p2), .val (.int p3), .val (.ref b1), .val (.int v2), .val (.int v3), .val (.int (bi (¬ ((p3 &&& (1 : Int32)) = (0 : Int32))))), .val (.ref b4)] [(.int (1 : Int32)), (.ref b4)])
      refine Goes.iaload S B A_b4 (by decide) (own_lt hv3 1 (by decide) hc165) at_171 (v := (.int (u5 1))) rfl ?_
      show Goes _ _ _ _ T (mkF me_ 172 #[.val (.long q0), .second, .val (.int p1), .val (.int p2), .val (.int p3), .val (.ref b1), .val (.int v2), .val (.int v3), .val (.int (bi (¬ ((p3 &&& (1 : Int32)) = (0 : Int32))))), .val (.ref b4)] [(.int (u5 1))])
      refine Goes.go (fun _ => XS.aload S.here B.x rfl (B.d at_172) rfl rfl) ?_
      show Goes _ _ _ _ T (mkF me_ 174 #[.val (.long q0), .second, .val (.int p1), .val (.int p2), .val (.int p3), .val (.ref b1), .val (.int v2), .val (.int v3), .val (.int (bi (¬ ((p3 &&& (1 : Int32)) = (0 : Int32))))), .val (.ref b4)] [(.ref b1), (.int (u5 1))])
      refine Goes.go (fun _ => XS.iload S.here B.x rfl (B.d at_174) rfl) ?_
      show Goes _ _ _ _ T (mkF me_ 176 #[.val (.long q0), .second, .val (.int p1), .val (.int p2), .val (.int p3), .val (.ref b1), .val (.int v2), .val (.int v3), .val (.int (bi (¬ ((p3 &&& (1 : Int32)) = (0 : Int32))))), .val (.ref b4)] [(.int v2), (.ref b1), (.int (u5 1))])
      refine Goes.go (fun _ => XS.iconst S.here B.x rfl (B.d at_176)) ?_
      show Goes _ _ _ _ T (mkF me_ 177 #[.val (.long q0), .second, .val (.int p1), .val (.int p2), .val (.int p3), .val (.ref b1), .val (.int v2), .val (.int v3), .val (.int (bi (¬ ((p3 &&& (1 : Int32)) = (0 : Int32))))), .val (.ref b4)] [(.int (1 : Int32)), (.int v2), (.ref b1), (.int (u5 1))])
      refine Goes.go (fun _ => XS.iload S.here B.x rfl (B.d at_177) rfl) ?_
      show Goes _ _ _ _ T (mkF me_ 179 #[.val (.long q0), .second, .val (.int p1), .val (.int p2), .val (.int p3), .val (.ref b1), .val (.int v2), .val (.int v3), .val (.int (bi (¬ ((p3 &&& (1 : Int32)) = (0 : Int32))))), .val (.ref b4)] [(.int (bi (¬ ((p3 &&& (1 : Int32)) = (0 : Int32))))), (.int (1 : Int32)), (.int v2), (.ref b1), (.int (u5 1))])
      refine Goes.callS (argsL := [(.ref b1), (.int v2), (.int (1 : Int32)), (.int (bi (¬ ((p3 &&& (1 : Int32)) = (0 : Int32)))))]) (rest := [(.int (u5 1))]) (W := 1) S B (rm_ex l Z aw hw b1 v2 (1 : Int32) (bi (¬ ((p3 &&& (1 : Int32)) = (0 : Int32)))) F (F (((4 : Int32) * (1 : Int32)) % v2).toNatClampNeg) (F ((((4 : Int32) * (1 : Int32)) + (1 : Int32)) % v2).toNatClampNeg) (F ((((4 : Int32) * (1 : Int32)) + (2 : Int32)) % v2).toNatClampNeg) (F ((((4 : Int32) * (1 : Int32)) + (3 : Int32)) % v2).toNatClampNeg) _ n0 A_b1 (own_ln hv2).1 (own_ix0 (own_ln hv2).2 (k := 1) (by decide) (by decide)).1 (own_ix0 (own_ln hv2).2 (k := 1) (by decide) (by decide)).2 rfl (own_ix (own_ln hv2).2 (k := 1) (j := 1) (by decide) (by decide) (by decide) (by decide)).1 (own_ix (own_ln hv2).2 (k := 1) (j := 1) (by decide) (by decide) (by decide) (by decide)).2 rfl (own_ix (own_ln hv2).2 (k := 1) (j := 2) (by decide) (by decide) (by decide) (by decide)).1 (own_ix (own_ln hv2).2 (k := 1) (j := 2) (by decide) (by decide) (by decide) (by decide)).2 rfl (own_ix (own_ln hv2).2 (k := 1) (j := 3) (by decide) (by decide) (by decide) (by decide)).1 (own_ix (own_ln hv2).2 (k := 1) (j := 3) (by decide) (by decide) (by decide) (by decide)).2 rfl) (w10 hw) (w11 hw) (w12 hw) (w13 hw) (by decide) (by decide) (by decide) (by decide) (by decide) rfl (lenOf pd_0 rfl) rfl (Nat.le_of_eq rfl) at_179 ?_
      intro v T h S hQ
      obtain ⟨rfl, hh⟩ := hQ
      replace hh := hh.symm
      subst hh
      show Goes _ _ _ _ T (mkF me_ 182 #[.val (.long q0), .second, .val (.int p1), .val (.int p2), .val (.int p3), .val (.ref b1), .val (.int v2), .val (.int v3), .val (.int (bi (¬ ((p3 &&& (1 : Int32)) = (0 : Int32))))), .val (.ref b4)] [(.int (own_ex (bi (¬ ((p3 &&& (1 : Int32)) = (0 : Int32)))) (F (((4 : Int32) * (1 : Int32)) % v2).toNatClampNeg) (F ((((4 : Int32) * (1 : Int32)) + (1 : Int32)) % v2).toNatClampNeg) (F ((((4 : Int32) * (1 : Int32)) + (2 : Int32)) % v2).toNatClampNeg) (F ((((4 : Int32) * (1 : Int32)) + (3 : Int32)) % v2).toNatClampNeg))), (.int (u5 1))])
      refine Goes.go (fun _ => XS.icmpYes S.here B.x rfl (pc0 := 182) (pc' := 187) rfl (B.d at_182) rfl (teq (show (u5 1) = (own_ex (bi (¬ ((p3 &&& (1 : Int32)) = (0 : Int32)))) (F (((4 : Int32) * (1 : Int32)) % v2).toNatClampNeg) (F ((((4 : Int32) * (1 : Int32)) + (1 : Int32)) % v2).toNatClampNeg) (F ((((4 : Int32) * (1 : Int32)) + (2 : Int32)) % v2).toNatClampNeg) (F ((((4 : Int32) * (1 : Int32)) + (3 : Int32)) % v2).toNatClampNeg)) from (hw1_123 hc165).trans (own_same v2 1 F _ hB))).1 (by decide) (by decide)) ?_
      show Goes _ _ _ _ T (mkF me_ 187 #[.val (.long q0), .second, .val (.int p1), .val (.int p2), .val (.int p3), .val (.ref b1), .val (.int v2), .val (.int v3), .val (.int (bi (¬ ((p3 &&& (1 : Int32)) = (0 : Int32))))), .val (.ref b4)] [])
      refine Goes.go (fun _ => XS.iload S.here B.x rfl (B.d at_187) rfl) ?_
      show Goes _ _ _ _ T (mkF me_ 189 #[.val (.long q0), .second, .val (.int p1), .val (.int p2), .val (.int p3), .val (.ref b1), .val (.int v2), .val (.int v3), .val (.int (bi (¬ ((p3 &&& (1 : Int32)) = (0 : Int32))))), .val (.ref b4)] [(.int v3)])
      refine Goes.go (fun _ => XS.iconst S.here B.x rfl (B.d at_189)) ?_
      show Goes _ _ _ _ T (mkF me_ 190 #[.val (.long q0), .second, .val (.int p1), .val (.int p2), .val (.int p3), .val (.ref b1), .val (.int v2), .val (.int v3), .val (.int (bi (¬ ((p3 &&& (1 : Int32)) = (0 : Int32))))), .val (.ref b4)] [(.int (2 : Int32)), (.int v3)])
      by_cases hc190 : (2 : Int32) < v3
      · skip
        refine Goes.go (fun _ => XS.icmpNo S.here B.x rfl (B.d at_190) rfl (tlt hc190).2.2.2) ?_
        show Goes _ _ _ _ T (mkF me_ 193 #[.val (.long q0), .second, .val (.int p1), .val (.int p2), .val (.int p3), .val (.ref b1), .val (.int v2), .val (.int v3), .val (.int (bi (¬ ((p3 &&& (1 : Int32)) = (0 : Int32))))), .val (.ref b4)] [])
        refine Goes.go (fun _ => XS.aload S.here B.x rfl (B.d at_193) rfl rfl) ?_
        show Goes _ _ _ _ T (mkF me_ 195 #[.val (.long q0), .second, .val (.int p1), .val (.int p2), .val (.int p3), .val (.ref b1), .val (.int v2), .val (.int v3), .val (.int (bi (¬ ((p3 &&& (1 : Int32)) = (0 : Int32))))), .val (.ref b4)] [(.ref b4)])
        refine Goes.go (fun _ => XS.iconst S.here B.x rfl (B.d at_195)) ?_
        show Goes _ _ _ _ T (mkF me_ 196 #[.val (.long q0), .second, .val (.int p1), .val (.int p2), .val (.int p3), .val (.ref b1), .val (.int v2), .val (.int v3), .val (.int (bi (¬ ((p3 &&& (1 : Int32)) = (0 : Int32))))), .val (.ref b4)] [(.int (2 : Int32)), (.ref b4)])
        refine Goes.iaload S B A_b4 (by decide) (own_lt hv3 2 (by decide) hc190) at_196 (v := (.int (u5 2))) rfl ?_
        show Goes _ _ _ _ T (mkF me_ 197 #[.val (.long q0), .second, .val (.int p1), .val (.int p2), .val (.int p3), .val (.ref b1), .val (.int v2), .val (.int v3), .val (.int (bi (¬ ((p3 &&& (1 : Int32)) = (0 : Int32))))), .val (.ref b4)] [(.int (u5 2))])
        refine Goes.go (fun _ => XS.aload S.here B.x rfl (B.d at_197) rfl rfl) ?_
        show Goes _ _ _ _ T (mkF me_ 199 #[.val (.long q0), .second, .val (.int p1), .val (.int p2), .val (.int p3), .val (.ref b1), .val (.int v2), .val (.int v3), .val (.int (bi (¬ ((p3 &&& (1 : Int32)) = (0 : Int32))))), .val (.ref b4)] [(.ref b1), (.int (u5 2))])
        refine Goes.go (fun _ => XS.iload S.here B.x rfl (B.d at_199) rfl) ?_
        show Goes _ _ _ _ T (mkF me_ 201 #[.val (.long q0), .second, .val (.int p1), .val (.int p2), .val (.int p3), .val (.ref b1), .val (.int v2), .val (.int v3), .val (.int (bi (¬ ((p3 &&& (1 : Int32)) = (0 : Int32))))), .val (.ref b4)] [(.int v2), (.ref b1), (.int (u5 2))])
        refine Goes.go (fun _ => XS.iconst S.here B.x rfl (B.d at_201)) ?_
        show Goes _ _ _ _ T (mkF me_ 202 #[.val (.long q0), .second, .val (.int p1), .val (.int p2), .val (.int p3), .val (.ref b1), .val (.int v2), .val (.int v3), .val (.int (bi (¬ ((p3 &&& (1 : Int32)) = (0 : Int32))))), .val (.ref b4)] [(.int (2 : Int32)), (.int v2), (.ref b1), (.int (u5 2))])
        refine Goes.go (fun _ => XS.iload S.here B.x rfl (B.d at_202) rfl) ?_
        show Goes _ _ _ _ T (mkF me_ 204 #[.val (.long q0), .second, .val (.int p1), .val (.int p2), .val (.int p3), .val (.ref b1), .val (.int v2), .val (.int v3), .val (.int (bi (¬ ((p3 &&& (1 : Int32)) = (0 : Int32))))), .val (.ref b4)] [(.int (bi (¬ ((p3 &&& (1 : Int32)) = (0 : Int32))))), (.int (2 : Int32)), (.int v2), (.ref b1), (.int (u5 2))])
        refine Goes.callS (argsL := [(.ref b1), (.int v2), (.int (2 : Int32)), (.int (bi (¬ ((p3 &&& (1 : Int32)) = (0 : Int32)))))]) (rest := [(.int (u5 2))]) (W := 1) S B (rm_ex l Z aw hw b1 v2 (2 : Int32) (bi (¬ ((p3 &&& (1 : Int32)) = (0 : Int32)))) F (F (((4 : Int32) * (2 : Int32)) % v2).toNatClampNeg) (F ((((4 : Int32) * (2 : Int32)) + (1 : Int32)) % v2).toNatClampNeg) (F ((((4 : Int32) * (2 : Int32)) + (2 : Int32)) % v2).toNatClampNeg) (F ((((4 : Int32) * (2 : Int32)) + (3 : Int32)) % v2).toNatClampNeg) _ n0 A_b1 (own_ln hv2).1 (own_ix0 (own_ln hv2).2 (k := 2) (by decide) (by decide)).1 (own_ix0 (own_ln hv2).2 (k := 2) (by decide) (by decide)).2 rfl (own_ix (own_ln hv2).2 (k := 2) (j := 1) (by decide) (by decide) (by decide) (by decide)).1 (own_ix (own_ln hv2).2 (k := 2) (j := 1) (by decide) (by decide) (by decide) (by decide)).2 rfl (own_ix (own_ln hv2).2 (k := 2) (j := 2) (by decide) (by decide) (by decide) (by decide)).1 (own_ix (own_ln hv2).2 (k := 2) (j := 2) (by decide) (by decide) (by decide) (by decide)).2 rfl (own_ix (own_ln hv2).2 (k := 2) (j := 3) (by decide) (by decide) (by decide) (by decide)).1 (own_ix (own_ln hv2).2 (k := 2) (j := 3) (by decide) (by decide) (by decide) (by decide)).2 rfl) (w10 hw) (w11 hw) (w12 hw) (w13 hw) (by decide) (by decide) (by decide) (by decide) (by decide) rfl (lenOf pd_0 rfl) rfl (Nat.le_of_eq rfl) at_204 ?_
        intro v T h S hQ
        obtain ⟨rfl, hh⟩ := hQ
        replace hh := hh.symm
        subst hh
        show Goes _ _ _ _ T (mkF me_ 207 #[.val (.long q0), .second, .val (.int p1), .val (.int p2), .val (.int p3), .val (.ref b1), .val (.int v2), .val (.int v3), .val (.int (bi (¬ ((p3 &&& (1 : Int32)) = (0 : Int32))))), .val (.ref b4)] [(.int (own_ex (bi (¬ ((p3 &&& (1 : Int32)) = (0 : Int32)))) (F (((4 : Int32) * (2 : Int32)) % v2).toNatClampNeg) (F ((((4 : Int32) * (2 : Int32)) + (1 : Int32)) % v2).toNatClampNeg) (F ((((4 : Int32) * (2 : Int32)) + (2 : Int32)) % v2).toNatClampNeg) (F ((((4 : Int32) * (2 : Int32)) + (3 : Int32)) % v2).toNatClampNeg))), (.int (u5 2))])
        refine Goes.go (fun _ => XS.icmpYes S.here B.x rfl (pc0 := 207) (pc' := 212) rfl (B.d at_207) rfl (teq (show (u5 2) = (own_ex (bi (¬ ((p3 &&& (1 : Int32)) = (0 : Int32)))) (F (((4 : Int32) * (2 : Int32)) % v2).toNatClampNeg) (F ((((4 : Int32) * (2 : Int32)) + (1 : Int32)) % v2).toNatClampNeg) (F ((((4 : Int32) * (2 : Int32)) + (2 : Int32)) % v2).toNatClampNeg) (F ((((4 : Int32) * (2 : Int32)) + (3 : Int32)) % v2).toNatClampNeg)) from (hw2_123 hc190).trans (own_same v2 2 F _ hB))).1 (by decide) (by decide)) ?_
        show Goes _ _ _ _ T (mkF me_ 212 #[.val (.long q0), .second, .val (.int p1), .val (.int p2), .val (.int p3), .val (.ref b1), .val (.int v2), .val (.int v3), .val (.int (bi (¬ ((p3 &&& (1 : Int32)) = (0 : Int32))))), .val (.ref b4)] [])
        refine Goes.go (fun _ => XS.iconst S.here B.x rfl (B.d at_212)) ?_
        show Goes _ _ _ _ T (mkF me_ 213 #[.val (.long q0), .second, .val (.int p1), .val (.int p2), .val (.int p3), .val (.ref b1), .val (.int v2), .val (.int v3), .val (.int (bi (¬ ((p3 &&& (1 : Int32)) = (0 : Int32))))), .val (.ref b4)] [(.int (1 : Int32))])
        refine Goes.retN S B (by simp) at_213 (by decide) (by decide) ?_
        exact rfl
      · skip
        refine Goes.go (fun _ => XS.icmpYes S.here B.x rfl (pc0 := 190) (pc' := 212) rfl (B.d at_190) rfl (flt hc190).2.2.2 (by decide) (by decide)) ?_
        show Goes _ _ _ _ T (mkF me_ 212 #[.val (.long q0), .second, .val (.int p1), .val (.int p2), .val (.int p3), .val (.ref b1), .val (.int v2), .val (.int v3), .val (.int (bi (¬ ((p3 &&& (1 : Int32)) = (0 : Int32))))), .val (.ref b4)] [])
        refine Goes.go (fun _ => XS.iconst S.here B.x rfl (B.d at_212)) ?_
        show Goes _ _ _ _ T (mkF me_ 213 #[.val (.long q0), .second, .val (.int p1), .val (.int p2), .val (.int p3), .val (.ref b1), .val (.int v2), .val (.int v3), .val (.int (bi (¬ ((p3 &&& (1 : Int32)) = (0 : Int32))))), .val (.ref b4)] [(.int (1 : Int32))])
        refine Goes.retN S B (by simp) at_213 (by decide) (by decide) ?_
        exact rfl
    · skip
      refine Goes.go (fun _ => XS.icmpYes S.here B.x rfl (pc0 := 165) (pc' := 187) rfl (B.d at_165) rfl (flt hc165).2.2.2 (by decide) (by decide)) ?_
      show Goes _ _ _ _ T (mkF me_ 187 #[.val (.long q0), .second, .val (.int p1), .val (.int p2), .val (.int p3), .val (.ref b1), .val (.int v2), .val (.int v3), .val (.int (bi (¬ ((p3 &&& (1 : Int32)) = (0 : Int32))))), .val (.ref b4)] [])
      refine Goes.go (fun _ => XS.iload S.here B.x rfl (B.d at_187) rfl) ?_
      show Goes _ _ _ _ T (mkF me_ 189 #[.val (.long q0), .second, .val (.int p1), .val (.int p2), .val (.int p3), .val (.ref b1), .val (.int v2), .val (.int v3), .val (.int (bi (¬ ((p3 &&& (1 : Int32)) = (0 : Int32))))), .val (.ref b4)] [(.int v3)])
      refine Goes.go (fun _ => XS.iconst S.here B.x rfl (B.d at_189)) ?_
      show Goes _ _ _ _ T (mkF me_ 190 #[.val (.long q0), .second, .val (.int p1), .val (.int p2), .val (.int p3), .val (.ref b1), .val (.int v2), .val (.int v3), .val (.int (bi (¬ ((p3 &&& (1 : Int32)) = (0 : Int32))))), .val (.ref b4)] [(.int (2 : Int32)), (.int v3)])
      by_cases hc190 : (2 : Int32) < v3
      · skip
        refine Goes.go (fun _ => XS.icmpNo S.here B.x rfl (B.d at_190) rfl (tlt hc190).2.2.2) ?_
        show Goes _ _ _ _ T (mkF me_ 193 #[.val (.long q0), .second, .val (.int p1), .val (.int p2), .val (.int p3), .val (.ref b1), .val (.int v2), .val (.int v3), .val (.int (bi (¬ ((p3 &&& (1 : Int32)) = (0 : Int32))))), .val (.ref b4)] [])
        refine Goes.go (fun _ => XS.aload S.here B.x rfl (B.d at_193) rfl rfl) ?_
        show Goes _ _ _ _ T (mkF me_ 195 #[.val (.long q0), .second, .val (.int p1), .val (.int p2), .val (.int p3), .val (.ref b1), .val (.int v2), .val (.int v3), .val (.int (bi (¬ ((p3 &&& (1 : Int32)) = (0 : Int32))))), .val (.ref b4)] [(.ref b4)])
        refine Goes.go (fun _ => XS.iconst S.here B.x rfl (B.d at_195)) ?_
        show Goes _ _ _ _ T (mkF me_ 196 #[.val (.long q0), .second, .val (.int p1), .val (.int p2), .val (.int p3), .val (.ref b1), .val (.int v2), .val (.int v3), .val (.int (bi (¬ ((p3 &&& (1 : Int32)) = (0 : Int32))))), .val (.ref b4)] [(.int (2 : Int32)), (.ref b4)])
        refine Goes.iaload S B A_b4 (by decide) (own_lt hv3 2 (by decide) hc190) at_196 (v := (.int (u5 2))) rfl ?_
        show Goes _ _ _ _ T (mkF me_ 197 #[.val (.long q0), .second, .val (.int p1), .val (.int p2), .val (.int p3), .val (.ref b1), .val (.int v2), .val (.int v3), .val (.int (bi (¬ ((p3 &&& (1 : Int32)) = (0 : Int32))))), .val (.ref b4)] [(.int (u5 2))])
        refine Goes.go (fun _ => XS.aload S.here B.x rfl (B.d at_197) rfl rfl) ?_
        show Goes _ _ _ _ T (mkF me_ 199 #[.val (.long q0), .second, .val (.int p1), .val (.int p2), .val (.int p3), .val (.ref b1), .val (.int v2), .val (.int v3), .val (.int (bi (¬ ((p3 &&& (1 : Int32)) = (0 : Int32))))), .val (.ref b4)] [(.ref b1), (.int (u5 2))])
        refine Goes.go (fun _ => XS.iload S.here B.x rfl (B.d at_199) rfl) ?_
        show Goes _ _ _ _ T (mkF me_ 201 #[.val (.long q0), .second, .val (.int p1), .val (.int p2), .val (.int p3), .val (.ref b1), .val (.int v2), .val (.int v3), .val (.int (bi (¬ ((p3 &&& (1 : Int32)) = (0 : Int32))))), .val (.ref b4)] [(.int v2), (.ref b1), (.int (u5 2))])
        refine Goes.go (fun _ => XS.iconst S.here B.x rfl (B.d at_201)) ?_
        show Goes _ _ _ _ T (mkF me_ 202 #[.val (.long q0), .second, .val (.int p1), .val (.int p2), .val (.int p3), .val (.ref b1), .val (.int v2), .val (.int v3), .val (.int (bi (¬ ((p3 &&& (1 : Int32)) = (0 : Int32))))), .val (.ref b4)] [(.int (2 : Int32)), (.int v2), (.ref b1), (.int (u5 2))])
        refine Goes.go (fun _ => XS.iload S.here B.x rfl (B.d at_202) rfl) ?_
        show Goes _ _ _ _ T (mkF me_ 204 #[.val (.long q0), .second, .val (.int p1), .val (.int p2), .val (.int p3), .val (.ref b1), .val (.int v2), .val (.int v3), .val (.int (bi (¬ ((p3 &&& (1 : Int32)) = (0 : Int32))))), .val (.ref b4)] [(.int (bi (¬ ((p3 &&& (1 : Int32)) = (0 : Int32))))), (.int (2 : Int32)), (.int v2), (.ref b1), (.int (u5 2))])
        refine Goes.callS (argsL := [(.ref b1), (.int v2), (.int (2 : Int32)), (.int (bi (¬ ((p3 &&& (1 : Int32)) = (0 : Int32)))))]) (rest := [(.int (u5 2))]) (W := 1) S B (rm_ex l Z aw hw b1 v2 (2 : Int32) (bi (¬ ((p3 &&& (1 : Int32)) = (0 : Int32)))) F (F (((4 : Int32) * (2 : Int32)) % v2).toNatClampNeg) (F ((((4 : Int32) * (2 : Int32)) + (1 : Int32)) % v2).toNatClampNeg) (F ((((4 : Int32) * (2 : Int32)) + (2 : Int32)) % v2).toNatClampNeg) (F ((((4 : Int32) * (2 : Int32)) + (3 : Int32)) % v2).toNatClampNeg) _ n0 A_b1 (own_ln hv2).1 (own_ix0 (own_ln hv2).2 (k := 2) (by decide) (by decide)).1 (own_ix0 (own_ln hv2).2 (k := 2) (by decide) (by decide)).2 rfl (own_ix (own_ln hv2).2 (k := 2) (j := 1) (by decide) (by decide) (by decide) (by decide)).1 (own_ix (own_ln hv2).2 (k := 2) (j := 1) (by decide) (by decide) (by decide) (by decide)).2 rfl (own_ix (own_ln hv2).2 (k := 2) (j := 2) (by decide) (by decide) (by decide) (by decide)).1 (own_ix (own_ln hv2).2 (k := 2) (j := 2) (by decide) (by decide) (by decide) (by decide)).2 rfl (own_ix (own_ln hv2).2 (k := 2) (j := 3) (by decide) (by decide) (by decide) (by decide)).1 (own_ix (own_ln hv2).2 (k := 2) (j := 3) (by decide) (by decide) (by decide) (by decide)).2 rfl) (w10 hw) (w11 hw) (w12 hw) (w13 hw) (by decide) (by decide) (by decide) (by decide) (by decide) rfl (lenOf pd_0 rfl) rfl (Nat.le_of_eq rfl) at_204 ?_
        intro v T h S hQ
        obtain ⟨rfl, hh⟩ := hQ
        replace hh := hh.symm
        subst hh
        show Goes _ _ _ _ T (mkF me_ 207 #[.val (.long q0), .second, .val (.int p1), .val (.int p2), .val (.int p3), .val (.ref b1), .val (.int v2), .val (.int v3), .val (.int (bi (¬ ((p3 &&& (1 : Int32)) = (0 : Int32))))), .val (.ref b4)] [(.int (own_ex (bi (¬ ((p3 &&& (1 : Int32)) = (0 : Int32)))) (F (((4 : Int32) * (2 : Int32)) % v2).toNatClampNeg) (F ((((4 : Int32) * (2 : Int32)) + (1 : Int32)) % v2).toNatClampNeg) (F ((((4 : Int32) * (2 : Int32)) + (2 : Int32)) % v2).toNatClampNeg) (F ((((4 : Int32) * (2 : Int32)) + (3 : Int32)) % v2).toNatClampNeg))), (.int (u5 2))])
        refine Goes.go (fun _ => XS.icmpYes S.here B.x rfl (pc0 := 207) (pc' := 212) rfl (B.d at_207) rfl (teq (show (u5 2) = (own_ex (bi (¬ ((p3 &&& (1 : Int32)) = (0 : Int32)))) (F (((4 : Int32) * (2 : Int32)) % v2).toNatClampNeg) (F ((((4 : Int32) * (2 : Int32)) + (1 : Int32)) % v2).toNatClampNeg) (F ((((4 : Int32) * (2 : Int32)) + (2 : Int32)) % v2).toNatClampNeg) (F ((((4 : Int32) * (2 : Int32)) + (3 : Int32)) % v2).toNatClampNeg)) from (hw2_123 hc190).trans (own_same v2 2 F _ hB))).1 (by decide) (by decide)) ?_
        show Goes _ _ _ _ T (mkF me_ 212 #[.val (.long q0), .second, .val (.int p1), .val (.int p2), .val (.int p3), .val (.ref b1), .val (.int v2), .val (.int v3), .val (.int (bi (¬ ((p3 &&& (1 : Int32)) = (0 : Int32))))), .val (.ref b4)] [])
        refine Goes.go (fun _ => XS.iconst S.here B.x rfl (B.d at_212)) ?_
        show Goes _ _ _ _ T (mkF me_ 213 #[.val (.long q0), .second, .val (.int p1), .val (.int p2), .val (.int p3), .val (.ref b1), .val (.int v2), .val (.int v3), .val (.int (bi (¬ ((p3 &&& (1 : Int32)) = (0 : Int32))))), .val (.ref b4)] [(.int (1 : Int32))])
        refine Goes.retN S B (by simp) at_213 (by decide) (by decide) ?_
        exact rfl
      · skip
        refine Goes.go (fun _ => XS.icmpYes S.here B.x rfl (pc0 := 190) (pc' := 212) rfl (B.d at_190) rfl (flt hc190).2.2.2 (by decide) (by decide)) ?_
        show Goes _ _ _ _ T (mkF me_ 212 #[.val (.long q0), .second, .val (.int p1), .val (.int p2), .val (.int p3), .val (.ref b1), .val (.int v2), .val (.int v3), .val (.int (bi (¬ ((p3 &&& (1 : Int32)) = (0 : Int32))))), .val (.ref b4)] [])
        refine Goes.go (fun _ => XS.iconst S.here B.x rfl (B.d at_212)) ?_
        show Goes _ _ _ _ T (mkF me_ 213 #[.val (.long q0), .second, .val (.int p1), .val (.int p2), .val (.int p3), .val (.ref b1), .val (.int v2), .val (.int v3), .val (.int (bi (¬ ((p3 &&& (1 : Int32)) = (0 : Int32))))), .val (.ref b4)] [(.int (1 : Int32))])
        refine Goes.retN S B (by simp) at_213 (by decide) (by decide) ?_
        exact rfl
  · skip
    refine Goes.go (fun _ => XS.ifYes S.here B.x rfl (pc0 := 140) (pc' := 162) rfl (B.d at_140) rfl ((if0 _ _).trans (flt hc140).2.2.2) (by decide) (by decide)) ?_
    show Goes _ _ _ _ T (mkF me_ 162 #[.val (.long q0), .second, .val (.int p1), .val (.int p2), .val (.int p3), .val (.ref b1), .val (.int v2), .val (.int v3), .val (.int (bi (¬ ((p3 &&& (1 : Int32)) = (0 : Int32))))), .val (.ref b4)] [])
    refine Goes.go (fun _ => XS.iload S.here B.x rfl (B.d at_162) rfl) ?_
    show Goes _ _ _ _ T (mkF me_ 164 #[.val (.long q0), .second, .val (.int p1), .val (.int p2), .val (.int p3), .val (.ref b1), .val (.int v2), .val (.int v3), .val (.int (bi (¬ ((p3 &&& (1 : Int32)) = (0 : Int32))))), .val (.ref b4)] [(.int v3)])
    refine Goes.go (fun _ => XS.iconst S.here B.x rfl (B.d at_164)) ?_
    show Goes _ _ _ _ T (mkF me_ 165 #[.val (.long q0), .second, .val (.int p1), .val (.int p2), .val (.int p3), .val (.ref b1), .val (.int v2), .val (.int v3), .val (.int (bi (¬ ((p3 &&& (1 : Int32)) = (0 : Int32))))), .val (.ref b4)] [(.int (1 : Int32)), (.int v3)])
    by_cases hc165 : (1 : Int32) < v3
    · skip
      refine Goes.go (fun _ => XS.icmpNo S.here B.x rfl (B.d at_165) rfl (tlt hc165).2.2.2) ?_
      show Goes _ _ _ _ T (mkF me_ 168 #[.val (.long q0), .second, .val (.int p1), .val (.int p2), .val (.int p3), .val (.ref b1), .val (.int v2), .val (.int v3), .val (.int (bi (¬ ((p3 &&& (1 : Int32)) = (0 : Int32))))), .val (.ref b4)] [])
      refine Goes.go (fun _ => XS.aload S.here B.x rfl (B.d at_168) rfl rfl) ?_
      show Goes _ _ _ _ T (mkF me_ 170 #[.val (.long q0), .second, .val (.int p1), .val (.int p2), .val (.int p3), .val (.ref b1), .val (.int v2), .val (.int v3), .val (.int (bi (¬ ((p3 &&& (1 : Int32)) = (0 : Int32))))), .val (.ref b4)] [(.ref b4)])
      refine Goes.go (fun _ => XS.iconst S.here B.x rfl (B.d at_170)) ?_
      show Goes _ _ _ _ T (mkF me_ 171 #[.val (.long q0), .second, .val (.int p1), .val (.int p2), .val (.int p3), .val (.ref b1), .val (.int v2), .val (.int v3), .val (.int (bi (¬ ((p3 &&& (1 : Int32)) = (0 : Int32))))), .val (.ref b4)] [(.int (1 : Int32)), (.ref b4)])
      refine Goes.iaload S B A_b4 (by decide) (own_lt hv3 1 (by decide) hc165) at_171 (v := (.int (u5 1))) rfl ?_
      show Goes _ _ _ _ T (mkF me_ 172 #[.val (.long q0), .second, .val (.int p1), .val (.int p2), .val (.int p3), .val (.ref b1), .val (.int v2), .val (.int v3), .val (.int (bi (¬ ((p3 &&& (1 : Int32)) = (0 : Int32))))), .val (.ref b4)] [(.int (u5 1))])
      refine Goes.go (fun _ => XS.aload S.here B.x rfl (B.d at_172) rfl rfl) ?_
      show Goes _ _ _ _ T (mkF me_ 174 #[.val (.long q0), .second, .val (.int p1), .val (.int p2), .val (.int p3), .val (.ref b1), .val (.int v2), .val (.int v3), .val (.int (bi (¬ ((p3 &&& (1 : Int32)) = (0 : Int32))))), .val (.ref b4)] [(.ref b1), (.int (u5 1))])
      refine Goes.go (fun _ => XS.iload S.here B.x rfl (B.d at_174) rfl) ?_
      show Goes _ _ _ _ T (mkF me_ 176 #[.val (.long q0), .second, .val (.int p1), .val (.int p2), .val (.int p3), .val (.ref b1), .val (.int v2), .val (.int v3), .val (.int (bi (¬ ((p3 &&& (1 : Int32)) = (0 : Int32))))), .val (.ref b4)] [(.int v2), (.ref b1), (.int (u5 1))])
      refine Goes.go (fun _ => XS.iconst S.here B.x rfl (B.d at_176)) ?_
      show Goes _ _ _ _ T (mkF me_ 177 #[.val (.long q0), .second, .val (.int p1), .val (.int p2), .val (.int p3), .val (.ref b1), .val (.int v2), .val (.int v3), .val (.int (bi (¬ ((p3 &&& (1 : Int32)) = (0 : Int32))))), .val (.ref b4)] [(.int (1 : Int32)), (.int v2), (.ref b1), (.int (u5 1))])
      refine Goes.go (fun _ => XS.iload S.here B.x rfl (B.d at_177) rfl) ?_
      show Goes _ _ _ _ T (mkF me_ 179 #[.val (.long q0), .second, .val (.int p1), .val (.int p2), .val (.int p3), .val (.ref b1), .val (.int v2), .val (.int v3), .val (.int (bi (¬ ((p3 &&& (1 : Int32)) = (0 : Int32))))), .val (.ref b4)] [(.int (bi (¬ ((p3 &&& (1 : Int32)) = (0 : Int32))))), (.int (1 : Int32)), (.int v2), (.ref b1), (.int (u5 1))])
      refine Goes.callS (argsL := [(.ref b1), (.int v2), (.int (1 : Int32)), (.int (bi (¬ ((p3 &&& (1 : Int32)) = (0 : Int32)))))]) (rest := [(.int (u5 1))]) (W := 1) S B (rm_ex l Z aw hw b1 v2 (1 : Int32) (bi (¬ ((p3 &&& (1 : Int32)) = (0 : Int32)))) F (F (((4 : Int32) * (1 : Int32)) % v2).toNatClampNeg) (F ((((4 : Int32) * (1 : Int32)) + (1 : Int32)) % v2).toNatClampNeg) (F ((((4 : Int32) * (1 : Int32)) + (2 : Int32)) % v2).toNatClampNeg) (F ((((4 : Int32) * (1 : Int32)) + (3 : Int32)) % v2).toNatClampNeg) _ n0 A_b1 (own_ln hv2).1 (own_ix0 (own_ln hv2).2 (k := 1) (by decide) (by decide)).1 (own_ix0 (own_ln hv2).2 (k := 1) (by decide) (by decide)).2 rfl (own_ix (own_ln hv2).2 (k := 1) (j := 1) (by decide) (by decide) (by decide) (by decide)).1 (own_ix (own_ln hv2).2 (k := 1) (j := 1) (by decide) (by decide) (by decide) (by decide)).2 rfl (own_ix (own_ln hv2).2 (k := 1) (j := 2) (by decide) (by decide) (by decide) (by decide)).1 (own_ix (own_ln hv2).2 (k := 1) (j := 2) (by decide) (by decide) (by decide) (by decide)).2 rfl (own_ix (own_ln hv2).2 (k := 1) (j := 3) (by decide) (by decide) (by decide) (by decide)).1 (own_ix (own_ln hv2).2 (k := 1) (j := 3) (by decide) (by decide) (by decide) (by decide)).2 rfl) (w10 hw) (w11 hw) (w12 hw) (w13 hw) (by decide) (by decide) (by decide) (by decide) (by decide) rfl (lenOf pd_0 rfl) rfl (Nat.le_of_eq rfl) at_179 ?_
      intro v T h S hQ
      obtain ⟨rfl, hh⟩ := hQ
      replace hh := hh.symm
      subst hh
      show Goes _ _ _ _ T (mkF me_ 182 #[.val (.long q0), .second, .val (.int p1), .val (.int p2), .val (.int p3), .val (.ref b1), .val (.int v2), .val (.int v3), .val (.int (bi (¬ ((p3 &&& (1 : Int32)) = (0 : Int32))))), .val (.ref b4)] [(.int (own_ex (bi (¬ ((p3 &&& (1 : Int32)) = (0 : Int32)))) (F (((4 : Int32) * (1 : Int32)) % v2).toNatClampNeg) (F ((((4 : Int32) * (1 : Int32)) + (1 : Int32)) % v2).toNatClampNeg) (F ((((4 : Int32) * (1 : Int32)) + (2 : Int32)) % v2).toNatClampNeg) (F ((((4 : Int32) * (1 : Int32)) + (3 : Int32)) % v2).toNatClampNeg))), (.int (u5 1))])
      refine Goes.go (fun _ => XS.icmpYes S.here B.x rfl (pc0 := 182) (pc' := 187) rfl (B.d at_182) rfl (teq (show (u5 1) = (own_ex (bi (¬ ((p3 &&& (1 : Int32)) = (0 : Int32)))) (F (((4 : Int32) * (1 : Int32)) % v2).toNatClampNeg) (F ((((4 : Int32) * (1 : Int32)) + (1 : Int32)) % v2).toNatClampNeg) (F ((((4 : Int32) * (1 : Int32)) + (2 : Int32)) % v2).toNatClampNeg) (F ((((4 : Int32) * (1 : Int32)) + (3 : Int32)) % v2).toNatClampNeg)) from (hw1_123 hc165).trans (own_same v2 1 F _ hB))).1 (by decide) (by decide)) ?_
      show Goes _ _ _ _ T (mkF me_ 187 #[.val (.long q0), .second, .val (.int p1), .val (.int p2), .val (.int p3), .val (.ref b1), .val (.int v2), .val (.int v3), .val (.int (bi (¬ ((p3 &&& (1 : Int32)) = (0 : Int32))))), .val (.ref b4)] [])
      refine Goes.go (fun _ => XS.iload S.here B.x rfl (B.d at_187) rfl) ?_
      show Goes _ _ _ _ T (mkF me_ 189 #[.val (.long q0), .second, .val (.int p1), .val (.int p2), .val (.int p3), .val (.ref b1), .val (.int v2), .val (.int v3), .val (.int (bi (¬ ((p3 &&& (1 : Int32)) = (0 : Int32))))), .val (.ref b4)] [(.int v3)])
      refine Goes.go (fun _ => XS.iconst S.here B.x rfl (B.d at_189)) ?_
      show Goes _ _ _ _ T (mkF me_ 190 #[.val (.long q0), .second, .val (.int p1), .val (.int p2), .val (.int p3), .val (.ref b1), .val (.int v2), .val (.int v3), .val (.int (bi (¬ ((p3 &&& (1 : Int32)) = (0 : Int32))))), .val (.ref b4)] [(.int (2 : Int32)), (.int v3)])
      by_cases hc190 : (2 : Int32) < v3
      · skip
        refine Goes.go (fun _ => XS.icmpNo S.here B.x rfl (B.d at_190) rfl (tlt hc190).2.2.2) ?_
        show Goes _ _ _ _ T (mkF me_ 193 #[.val (.long q0), .second, .val (.int p1), .val (.int p2), .val (.int p3), .val (.ref b1), .val (.int v2), .val (.int v3), .val (.int (bi (¬ ((p3 &&& (1 : Int32)) = (0 : Int32))))), .val (.ref b4)] [])
        refine Goes.go (fun _ => XS.aload S.here B.x rfl (B.d at_193) rfl rfl) ?_
        show Goes _ _ _ _ T (mkF me_ 195 #[.val (.long q0), .second, .val (.int p1), .val (.int p2), .val (.int p3), .val (.ref b1), .val (.int v2), .val (.int v3), .val (.int (bi (¬ ((p3 &&& (1 : Int32)) = (0 : Int32))))), .val (.ref b4)] [(.ref b4)])
        refine Goes.go (fun _ => XS.iconst S.here B.x rfl (B.d at_195)) ?_
        show Goes _ _ _ _ T (mkF me_ 196 #[.val (.long q0), .second, .val (.int p1), .val (.int p2), .val (.int p3), .val (.ref b1), .val (.int v2), .val (.int v3), .val (.int (bi (¬ ((p3 &&& (1 : Int32)) = (0 : Int32))))), .val (.ref b4)] [(.int (2 : Int32)), (.ref b4)])
        refine Goes.iaload S B A_b4 (by decide) (own_lt hv3 2 (by decide) hc190) at_196 (v := (.int (u5 2))) rfl ?_
        show Goes _ _ _ _ T (mkF me_ 197 #[.val (.long q0), .second, .val (.int p1), .val (.int p2), .val (.int p3), .val (.ref b1), .val (.int v2), .val (.int v3), .val (.int (bi (¬ ((p3 &&& (1 : Int32)) = (0 : Int32))))), .val (.ref b4)] [(.int (u5 2))])
        refine Goes.go (fun _ => XS.aload S.here B.x rfl (B.d at_197) rfl rfl) ?_
        show Goes _ _ _ _ T (mkF me_ 199 #[.val (.long q0), .second, .val (.int p1), .val (.int p2), .val (.int p3), .val (.ref b1), .val (.int v2), .val (.int v3), .val (.int (bi (¬ ((p3 &&& (1 : Int32)) = (0 : Int32))))), .val (.ref b4)] [(.ref b1), (.int (u5 2))])
        refine Goes.go (fun _ => XS.iload S.here B.x rfl (B.d at_199) rfl) ?_
        show Goes _ _ _ _ T (mkF me_ 201 #[.val (.long q0), .second, .val (.int p1), .val (.int p2), .val (.int p3), .val (.ref b1), .val (.int v2), .val (.int v3), .val (.int (bi (¬ ((p3 &&& (1 : Int32)) = (0 : Int32))))), .val (.ref b4)] [(.int v2), (.ref b1), (.int (u5 2))])
        refine Goes.go (fun _ => XS.iconst S.here B.x rfl (B.d at_201)) ?_
        show Goes _ _ _ _ T (mkF me_ 202 #[.val (.long q0), .second, .val (.int p1), .val (.int p2), .val (.int p3), .val (.ref b1), .val (.int v2), .val (.int v3), .val (.int (bi (¬ ((p3 &&& (1 : Int32)) = (0 : Int32))))), .val (.ref b4)] [(.int (2 : Int32)), (.int v2), (.ref b1), (.int (u5 2))])
        refine Goes.go (fun _ => XS.iload S.here B.x rfl (B.d at_202) rfl) ?_
        show Goes _ _ _ _ T (mkF me_ 204 #[.val (.long q0), .second, .val (.int p1), .val (.int p2), .val (.int p3), .val (.ref b1), .val (.int v2), .val (.int v3), .val (.int (bi (¬ ((p3 &&& (1 : Int32)) = (0 : Int32))))), .val (.ref b4)] [(.int (bi (¬ ((p3 &&& (1 : Int32)) = (0 : Int32))))), (.int (2 : Int32)), (.int v2), (.ref b1), (.int (u5 2))])
        refine Goes.callS (argsL := [(.ref b1), (.int v2), (.int (2 : Int32)), (.int (bi (¬ ((p3 &&& (1 : Int32)) = (0 : Int32)))))]) (rest := [(.int (u5 2))]) (W := 1) S B (rm_ex l Z aw hw b1 v2 (2 : Int32) (bi (¬ ((p3 &&& (1 : Int32)) = (0 : Int32)))) F (F (((4 : Int32) * (2 : Int32)) % v2).toNatClampNeg) (F ((((4 : Int32) * (2 : Int32)) + (1 : Int32)) % v2).toNatClampNeg) (F ((((4 : Int32) * (2 : Int32)) + (2 : Int32)) % v2).toNatClampNeg) (F ((((4 : Int32) * (2 : Int32)) + (3 : Int32)) % v2).toNatClampNeg) _ n0 A_b1 (own_ln hv2).1 (own_ix0 (own_ln hv2).2 (k := 2) (by decide) (by decide)).1 (own_ix0 (own_ln hv2).2 (k := 2) (by decide) (by decide)).2 rfl (own_ix (own_ln hv2).2 (k := 2) (j := 1) (by decide) (by decide) (by decide) (by decide)).1 (own_ix (own_ln hv2).2 (k := 2) (j := 1) (by decide) (by decide) (by decide) (by decide)).2 rfl (own_ix (own_ln hv2).2 (k := 2) (j := 2) (by decide) (by decide) (by decide) (by decide)).1 (own_ix (own_ln hv2).2 (k := 2) (j := 2) (by decide) (by decide) (by decide) (by decide)).2 rfl (own_ix (own_ln hv2).2 (k := 2) (j := 3) (by decide) (by decide) (by decide) (by decide)).1 (own_ix (own_ln hv2).2 (k := 2) (j := 3) (by decide) (by decide) (by decide) (by decide)).2 rfl) (w10 hw) (w11 hw) (w12 hw) (w13 hw) (by decide) (by decide) (by decide) (by decide) (by decide) rfl (lenOf pd_0 rfl) rfl (Nat.le_of_eq rfl) at_204 ?_
        intro v T h S hQ
        obtain ⟨rfl, hh⟩ := hQ
        replace hh := hh.symm
        subst hh
        show Goes _ _ _ _ T (mkF me_ 207 #[.val (.long q0), .second, .val (.int p1), .val (.int p2), .val (.int p3), .val (.ref b1), .val (.int v2), .val (.int v3), .val (.int (bi (¬ ((p3 &&& (1 : Int32)) = (0 : Int32))))), .val (.ref b4)] [(.int (own_ex (bi (¬ ((p3 &&& (1 : Int32)) = (0 : Int32)))) (F (((4 : Int32) * (2 : Int32)) % v2).toNatClampNeg) (F ((((4 : Int32) * (2 : Int32)) + (1 : Int32)) % v2).toNatClampNeg) (F ((((4 : Int32) * (2 : Int32)) + (2 : Int32)) % v2).toNatClampNeg) (F ((((4 : Int32) * (2 : Int32)) + (3 : Int32)) % v2).toNatClampNeg))), (.int (u5 2))])
        refine Goes.go (fun _ => XS.icmpYes S.here B.x rfl (pc0 := 207) (pc' := 212) rfl (B.d at_207) rfl (teq (show (u5 2) = (own_ex (bi (¬ ((p3 &&& (1 : Int32)) = (0 : Int32)))) (F (((4 : Int32) * (2 : Int32)) % v2).toNatClampNeg) (F ((((4 : Int32) * (2 : Int32)) + (1 : Int32)) % v2).toNatClampNeg) (F ((((4 : Int32) * (2 : Int32)) + (2 : Int32)) % v2).toNatClampNeg) (F ((((4 : Int32) * (2 : Int32)) + (3 : Int32)) % v2).toNatClampNeg)) from (hw2_123 hc190).trans (own_same v2 2 F _ hB))).1 (by decide) (by decide)) ?_
        show Goes _ _ _ _ T (mkF me_ 212 #[.val (.long q0), .second, .val (.int p1), .val (.int p2), .val (.int p3), .val (.ref b1), .val (.int v2), .val (.int v3), .val (.int (bi (¬ ((p3 &&& (1 : Int32)) = (0 : Int32))))), .val (.ref b4)] [])
        refine Goes.go (fun _ => XS.iconst S.here B.x rfl (B.d at_212)) ?_
        show Goes _ _ _ _ T (mkF me_ 213 #[.val (.long q0), .second, .val (.int p1), .val (.int p2), .val (.int p3), .val (.ref b1), .val (.int v2), .val (.int v3), .val (.int (bi (¬ ((p3 &&& (1 : Int32)) = (0 : Int32))))), .val (.ref b4)] [(.int (1 : Int32))])
        refine Goes.retN S B (by simp) at_213 (by decide) (by decide) ?_
        exact rfl
      · skip
        refine Goes.go (fun _ => XS.icmpYes S.here B.x rfl (pc0 := 190) (pc' := 212) rfl (B.d at_190) rfl (flt hc190).2.2.2 (by decide) (by decide)) ?_
        show Goes _ _ _ _ T (mkF me_ 212 #[.val (.long q0), .second, .val (.int p1), .val (.int p2), .val (.int p3), .val (.ref b1), .val (.int v2), .val (.int v3), .val (.int (bi (¬ ((p3 &&& (1 : Int32)) = (0 : Int32))))), .val (.ref b4)] [])
        refine Goes.go (fun _ => XS.iconst S.here B.x rfl (B.d at_212)) ?_
        show Goes _ _ _ _ T (mkF me_ 213 #[.val (.long q0), .second, .val (.int p1), .val (.int p2), .val (.int p3), .val (.ref b1), .val (.int v2), .val (.int v3), .val (.int (bi (¬ ((p3 &&& (1 : Int32)) = (0 : Int32))))), .val (.ref b4)] [(.int (1 : Int32))])
        refine Goes.retN S B (by simp) at_213 (by decide) (by decide) ?_
        exact rfl
    · skip
      refine Goes.go (fun _ => XS.icmpYes S.here B.x rfl (pc0 := 165) (pc' := 187) rfl (B.d at_165) rfl (flt hc165).2.2.2 (by decide) (by decide)) ?_
      show Goes _ _ _ _ T (mkF me_ 187 #[.val (.long q0), .second, .val (.int p1), .val (.int p2), .val (.int p3), .val (.ref b1), .val (.int v2), .val (.int v3), .val (.int (bi (¬ ((p3 &&& (1 : Int32)) = (0 : Int32))))), .val (.ref b4)] [])
      refine Goes.go (fun _ => XS.iload S.here B.x rfl (B.d at_187) rfl) ?_
      show Goes _ _ _ _ T (mkF me_ 189 #[.val (.long q0), .second, .val (.int p1), .val (.int p2), .val (.int p3), .val (.ref b1), .val (.int v2), .val (.int v3), .val (.int (bi (¬ ((p3 &&& (1 : Int32)) = (0 : Int32))))), .val (.ref b4)] [(.int v3)])
      refine Goes.go (fun _ => XS.iconst S.here B.x rfl (B.d at_189)) ?_
      show Goes _ _ _ _ T (mkF me_ 190 #[.val (.long q0), .second, .val (.int p1), .val (.int p2), .val (.int p3), .val (.ref b1), .val (.int v2), .val (.int v3), .val (.int (bi (¬ ((p3 &&& (1 : Int32)) = (0 : Int32))))), .val (.ref b4)] [(.int (2 : Int32)), (.int v3)])
      by_cases hc190 : (2 : Int32) < v3
      · skip
        refine Goes.go (fun _ => XS.icmpNo S.here B.x rfl (B.d at_190) rfl (tlt hc190).2.2.2) ?_
        show Goes _ _ _ _ T (mkF me_ 193 #[.val (.long q0), .second, .val (.int p1), .val (.int p2), .val (.int p3), .val (.ref b1), .val (.int v2), .val (.int v3), .val (.int (bi (¬ ((p3 &&& (1 : Int32)) = (0 : Int32))))), .val (.ref b4)] [])
        refine Goes.go (fun _ => XS.aload S.here B.x rfl (B.d at_193) rfl rfl) ?_
        show Goes _ _ _ _ T (mkF me_ 195 #[.val (.long q0), .second, .val (.int p1), .val (.int p2), .val (.int p3), .val (.ref b1), .val (.int v2), .val (.int v3), .val (.int (bi (¬ ((p3 &&& (1 : Int32)) = (0 : Int32))))), .val (.ref b4)] [(.ref b4)])
        refine Goes.go (fun _ => XS.iconst S.here B.x rfl (B.d at_195)) ?_
        show Goes _ _ _ _ T (mkF me_ 196 #[.val (.long q0), .second, .val (.int p1), .val (.int p2), .val (.int p3), .val (.ref b1), .val (.int v2), .val (.int v3), .val (.int (bi (¬ ((p3 &&& (1 : Int32)) = (0 : Int32))))), .val (.ref b4)] [(.int (2 : Int32)), (.ref b4)])
        refine Goes.iaload S B A_b4 (by decide) (own_lt hv3 2 (by decide) hc190) at_196 (v := (.int (u5 2))) rfl ?_
        show Goes _ _ _ _ T (mkF me_ 197 #[.val (.long q0), .second, .val (.int p1), .val (.int p2), .val (.int p3), .val (.ref b1), .val (.int v2), .val (.int v3), .val (.int (bi (¬ ((p3 &&& (1 : Int32)) = (0 : Int32))))), .val (.ref b4)] [(.int (u5 2))])
        refine Goes.go (fun _ => XS.aload S.here B.x rfl (B.d at_197) rfl rfl) ?_
        show Goes _ _ _ _ T (mkF me_ 199 #[.val (.long q0), .second, .val (.int p1), .val (.int p2), .val (.int p3), .val (.ref b1), .val (.int v2), .val (.int v3), .val (.int (bi (¬ ((p3 &&& (1 : Int32)) = (0 : Int32))))), .val (.ref b4)] [(.ref b1), (.int (u5 2))])
        refine Goes.go (fun _ => XS.iload S.here B.x rfl (B.d at_199) rfl) ?_
        show Goes _ _ _ _ T (mkF me_ 201 #[.val (.long q0), .second, .val (.int p1), .val (.int p2), .val (.int p3), .val (.ref b1), .val (.int v2), .val (.int v3), .val (.int (bi (¬ ((p3 &&& (1 : Int32)) = (0 : Int32))))), .val (.ref b4)] [(.int v2), (.ref b1), (.int (u5 2))])
        refine Goes.go (fun _ => XS.iconst S.here B.x rfl (B.d at_201)) ?_
        show Goes _ _ _ _ T (mkF me_ 202 #[.val (.long q0), .second, .val (.int p1), .val (.int p2), .val (.int p3), .val (.ref b1), .val (.int v2), .val (.int v3), .val (.int (bi (¬ ((p3 &&& (1 : Int32)) = (0 : Int32))))), .val (.ref b4)] [(.int (2 : Int32)), (.int v2), (.ref b1), (.int (u5 2))])
        refine Goes.go (fun _ => XS.iload S.here B.x rfl (B.d at_202) rfl) ?_
        show Goes _ _ _ _ T (mkF me_ 204 #[.val (.long q0), .second, .val (.int p1), .val (.int p2), .val (.int p3), .val (.ref b1), .val (.int v2), .val (.int v3), .val (.int (bi (¬ ((p3 &&& (1 : Int32)) = (0 : Int32))))), .val (.ref b4)] [(.int (bi (¬ ((p3 &&& (1 : Int32)) = (0 : Int32))))), (.int (2 : Int32)), (.int v2), (.ref b1), (.int (u5 2))])
        refine Goes.callS (argsL := [(.ref b1), (.int v2), (.int (2 : Int32)), (.int (bi (¬ ((p3 &&& (1 : Int32)) = (0 : Int32)))))]) (rest := [(.int (u5 2))]) (W := 1) S B (rm_ex l Z aw hw b1 v2 (2 : Int32) (bi (¬ ((p3 &&& (1 : Int32)) = (0 : Int32)))) F (F (((4 : Int32) * (2 : Int32)) % v2).toNatClampNeg) (F ((((4 : Int32) * (2 : Int32)) + (1 : Int32)) % v2).toNatClampNeg) (F ((((4 : Int32) * (2 : Int32)) + (2 : Int32)) % v2).toNatClampNeg) (F ((((4 : Int32) * (2 : Int32)) + (3 : Int32)) % v2).toNatClampNeg) _ n0 A_b1 (own_ln hv2).1 (own_ix0 (own_ln hv2).2 (k := 2) (by decide) (by decide)).1 (own_ix0 (own_ln hv2).2 (k := 2) (by decide) (by decide)).2 rfl (own_ix (own_ln hv2).2 (k := 2) (j := 1) (by decide) (by decide) (by decide) (by decide)).1 (own_ix (own_ln hv2).2 (k := 2) (j := 1) (by decide) (by decide) (by decide) (by decide)).2 rfl (own_ix (own_ln hv2).2 (k := 2) (j := 2) (by decide) (by decide) (by decide) (by decide)).1 (own_ix (own_ln hv2).2 (k := 2) (j := 2) (by decide) (by decide) (by decide) (by decide)).2 rfl (own_ix (own_ln hv2).2 (k := 2) (j := 3) (by decide) (by decide) (by decide) (by decide)).1 (own_ix (own_ln hv2).2 (k := 2) (j := 3) (by decide) (by decide) (by decide) (by decide)).2 rfl) (w10 hw) (w11 hw) (w12 hw) (w13 hw) (by decide) (by decide) (by decide) (by decide) (by decide) rfl (lenOf pd_0 rfl) rfl (Nat.le_of_eq rfl) at_204 ?_
        intro v T h S hQ
        obtain ⟨rfl, hh⟩ := hQ
        replace hh := hh.symm
        subst hh
        show Goes _ _ _ _ T (mkF me_ 207 #[.val (.long q0), .second, .val (.int p1), .val (.int p2), .val (.int p3), .val (.ref b1), .val (.int v2), .val (.int v3), .val (.int (bi (¬ ((p3 &&& (1 : Int32)) = (0 : Int32))))), .val (.ref b4)] [(.int (own_ex (bi (¬ ((p3 &&& (1 : Int32)) = (0 : Int32)))) (F (((4 : Int32) * (2 : Int32)) % v2).toNatClampNeg) (F ((((4 : Int32) * (2 : Int32)) + (1 : Int32)) % v2).toNatClampNeg) (F ((((4 : Int32) * (2 : Int32)) + (2 : Int32)) % v2).toNatClampNeg) (F ((((4 : Int32) * (2 : Int32)) + (3 : Int32)) % v2).toNatClampNeg))), (.int (u5 2))])
        refine Goes.go (fun _ => XS.icmpYes S.here B.x rfl (pc0 := 207) (pc' := 212) rfl (B.d at_207) rfl (teq (show (u5 2) = (own_ex (bi (¬ ((p3 &&& (1 : Int32)) = (0 : Int32)))) (F (((4 : Int32) * (2 : Int32)) % v2).toNatClampNeg) (F ((((4 : Int32) * (2 : Int32)) + (1 : Int32)) % v2).toNatClampNeg) (F ((((4 : Int32) * (2 : Int32)) + (2 : Int32)) % v2).toNatClampNeg) (F ((((4 : Int32) * (2 : Int32)) + (3 : Int32)) % v2).toNatClampNeg)) from (hw2_123 hc190).trans (own_same v2 2 F _ hB))).1 (by decide) (by decide)) ?_
        show Goes _ _ _ _ T (mkF me_ 212 #[.val (.long q0), .second, .val (.int p1), .val (.int p2), .val (.int p3), .val (.ref b1), .val (.int v2), .val (.int v3), .val (.int (bi (¬ ((p3 &&& (1 : Int32)) = (0 : Int32))))), .val (.ref b4)] [])
        refine Goes.go (fun _ => XS.iconst S.here B.x rfl (B.d at_212)) ?_
        show Goes _ _ _ _ T (mkF me_ 213 #[.val (.long q0), .second, .val (.int p1), .val (.int p2), .val (.int p3), .val (.ref b1), .val (.int v2), .val (.int v3), .val (.int (bi (¬ ((p3 &&& (1 : Int32)) = (0 : Int32))))), .val (.ref b4)] [(.int (1 : Int32))])
        refine Goes.retN S B (by simp) at_213 (by decide) (by decide) ?_
        exact rfl
      · skip
        refine Goes.go (fun _ => XS.icmpYes S.here B.x rfl (pc0 := 190) (pc' := 212) rfl (B.d at_190) rfl (flt hc190).2.2.2 (by decide) (by decide)) ?_
        show Goes _ _ _ _ T (mkF me_ 212 #[.val (.long q0), .second, .val (.int p1), .val (.int p2), .val (.int p3), .val (.ref b1), .val (.int v2), .val (.int v3), .val (.int (bi (¬ ((p3 &&& (1 : Int32)) = (0 : Int32))))), .val (.ref b4)] [])
        refine Goes.go (fun _ => XS.iconst S.here B.x rfl (B.d at_212)) ?_
        show Goes _ _ _ _ T (mkF me_ 213 #[.val (.long q0), .second, .val (.int p1), .val (.int p2), .val (.int p3), .val (.ref b1), .val (.int v2), .val (.int v3), .val (.int (bi (¬ ((p3 &&& (1 : Int32)) = (0 : Int32))))), .val (.ref b4)] [(.int (1 : Int32))])
        refine Goes.retN S B (by simp) at_213 (by decide) (by decide) ?_
        exact rfl
set_option maxRecDepth 65536 in
set_option maxHeartbeats 40000000 in
theorem comes_1 {Post : Tables → Env → Array Value → State → Outcome → State → Prop} (hpost : ∀ tb e args s v u, (limb_1_1.after args s (.returned v) u = true ∧ limb_1_2.after args s (.returned v) u = true ∧ True) → FrameEnd s (.returned v) u (Jvm.fieldLocs frame_1_writes args s ++ Jvm.arrayLocs frame_1_arrays args s ++ Jvm.staticLocs frame_1_statics s) 16 128 → Post tb e args s (.returned v) u) :
    ArmFor flags0 classFile x code maxLocals ret World_1 tables_1 room_1 Calls_1 rest_1 Pre_1 Post := by
  intro l hfl _ _ p e ha hc hk s m args below hf hA hF happ hP
  obtain ⟨hcalls, hrest, hpre⟩ := hP
  obtain ⟨-, -, -, hnamed, -, -, -, hat⟩ := (Spec.applies_iff hf).mp happ
  obtain ⟨hg, hn⟩ := and_e (Cond.before_iff.mp (show (Jvm.Cond.and given_1 narrow_1).before args s = true from hpre))
  obtain ⟨g0, k0⟩ := and_e hg
  obtain ⟨g1, k1⟩ := and_e k0
  obtain ⟨g2, k2⟩ := and_e k1
  obtain ⟨g3, k3⟩ := and_e k2
  have g4 := k3
  obtain ⟨w0, w1, w2, w3, rfl⟩ : ∃ w0 w1 w2 w3 : Value, args = #[w0, w1, w2, w3] := by
    have hs : args.size = 4 := by simpa [Cond.value, given_1] using g0
    obtain ⟨L⟩ := args
    match L, hs with
    | [w0, w1, w2, w3], _ => exact ⟨w0, w1, w2, w3, rfl⟩
  have hw := fun d (hd : d ∈ tables_1) => atoms_spec (ws := Jvm.Cond.code x code maxLocals ret :: tables_1) hat d (List.mem_cons_of_mem _ hd)
  obtain ⟨i0, ei0⟩ := isL_v g1
  obtain rfl : w0 = (.long i0) := Option.some.inj ei0
  obtain ⟨i1, ei1⟩ := is_v g2
  obtain rfl : w1 = (.int i1) := Option.some.inj ei1
  obtain ⟨i2, ei2⟩ := is_v g3
  obtain rfl : w2 = (.int i2) := Option.some.inj ei2
  obtain ⟨i3, ei3⟩ := is_v g4
  obtain rfl : w3 = (.int i3) := Option.some.inj ei3
  obtain ⟨n, o, h1, h2, h3, _, L, rfl, ⟨N, rfl⟩, hq⟩ := rm0 l s _ hw i0 i1 i2 i3 s.heap s.heap.size (Nat.le_refl _) tables_1 p e ha hc hk s m _ below hf ((Spec.applies_iff_loose hf).mp happ).1 ⟨rfl, State.Warmed39.refl s, rfl⟩ trivial
  refine ⟨n, _, h1, h2, h3, hpost _ _ _ _ _ _ ⟨Cond.after_iff.mpr rfl, Cond.after_iff.mpr (eq_i res_at (Term.int_eval (1)) rfl), trivial⟩ ⟨hq.1, hq.2.1, (hq.2.2.sift fun y hy => Or.inr (N y hy)).mono (by decide) (by decide)⟩⟩
theorem main_1_1 : Claimed_1_1 := comes_1 fun _ _ _ _ _ _ h hF => ⟨h.1, hF⟩
theorem main_1_2 : Claimed_1_2 := comes_1 fun _ _ _ _ _ _ h hF => ⟨h.2.1, hF⟩
end Jvm.Pilot.@@N@@
namespace Jvm.Pilot.@@N@@
open Jvm Jvm.ClassFile Sem Op Lib Jvm.Free Jvm.Stand Jvm.Pilot.@@N@@.Jvm.D
/-! MADE BY PROGRAM (witnessworld.py) out of the Statement's table words and the real class files: 9 classes; the members and pool entries that the words name. The judged class is class 1, her method 2. -/
namespace start1
open Jvm.ClassFile
def u (s : String) : CpInfo := .utf8 (stringToUtf16 s)
/-- a pool by its gaps: so many unusable entries, then the entry; so many at the end -/
def gap : Nat → List CpInfo → List CpInfo
  | 0, r => r
  | n + 1, r => .unusable :: gap n r
def poolList (es : List (Nat × CpInfo)) (last : Nat) : List CpInfo := es.foldr (fun e r => gap e.1 (e.2 :: r)) (gap last [])
def pool (es : List (Nat × CpInfo)) (last : Nat) : Array CpInfo := ⟨poolList es last⟩
def fileOf (pool : Array CpInfo) (this : Nat) (attrs : Array Attribute := #[]) (ms : Array MethodInfo := #[]) (fl : Nat := 33) (sup : Nat := 0) (ifs : Array Nat := #[]) (fds : Array FieldInfo := #[]) : ClassFile where
  minorVersion := 0
  majorVersion := 65
  constantPool := pool
  accessFlags := fl
  thisClass := this
  superClass := sup
  interfaces := ifs
  fields := fds
  methods := ms
  attributes := attrs
def plain (name : String) (sup : Option ClassId) : Class where
  name := name
  kind := .ordinary
  loader := none
  accessFlags := 33
  super := sup
  interfaces := #[]
  cf := none
  fields := #[]
  methods := #[]
  instanceTypes := #[]
  staticTypes := #[]
  resolved := #[]
  callSites := []
  init := .initialized
  statics := none
  mirror := none

def pool0 : Array CpInfo := pool [(5, u "<init>"), (0, u "()V"), (1, .class_ 10), (1, u "java/lang/Object")] 113

def k0m0 : Method := { name := "<init>", desc := "()V", sig := { parameters := [], returnType := none }, accessFlags := 1, code := none }
/-- java/lang/Object -/
def k0 : Class := { plain "java/lang/Object" none with
  accessFlags := 33
  interfaces := #[]
  cf := some (fileOf pool0 8 #[] #[{ accessFlags := 1, nameIndex := 5, descriptorIndex := 6, attributes := #[] }] 33 0 #[] #[])
  fields := #[]
  methods := #[k0m0]
  instanceTypes := #[]
  staticTypes := #[]
  resolved := Array.replicate 124 none
  statics := none }

def pool1 : Array CpInfo := pool [(2, .class_ 4), (1, u "java/lang/Object"), (0, u "<init>"), (0, u "()V"), (0, .integer 4278190080), (0, .integer 4294901760), (0, .integer 2147483647), (0, .methodref 11 12), (0, .class_ 13), (0, .nameAndType 14 15), (0, u "com/example/orphean/orphean/Blowfish"), (0, u "cyclicWords"), (0, u "([BIIZ)[I"), (0, .methodref 17 18), (0, .class_ 19), (0, .nameAndType 20 21), (0, u "com/example/orphean/orphean/BlowfishCyclicWordsPinLaw"), (0, u "expected"), (0, u "([BIIZ)I"), (5, u "law"), (0, u "(JIII)Z")] 4

def k1m0 : Method := { name := "<init>", desc := "()V", sig := { parameters := [], returnType := none }, accessFlags := 2, code := none }
def k1c1 : Code := { maxStack := 3, maxLocals := 10, code := method_2_code, exceptionTable := #[], attributes := #[] }
def k1m1 : Method := { name := "expected", desc := "([BIIZ)I", sig := { parameters := [(.array .byte), .int, .int, .boolean], returnType := some .int }, accessFlags := 10, code := some k1c1 }
def k1c2 : Code := { maxStack := 5, maxLocals := 10, code := code, exceptionTable := #[], attributes := #[] }
def k1m2 : Method := { name := "law", desc := "(JIII)Z", sig := { parameters := [.long, .int, .int, .int], returnType := some .boolean }, accessFlags := 9, code := some k1c2 }
/-- com/example/orphean/orphean/BlowfishCyclicWordsPinLaw -/
def k1 : Class := { plain "com/example/orphean/orphean/BlowfishCyclicWordsPinLaw" (some 0) with
  accessFlags := 49
  interfaces := #[]
  cf := some (fileOf pool1 17 #[] #[{ accessFlags := 2, nameIndex := 5, descriptorIndex := 6, attributes := #[] }, { accessFlags := 10, nameIndex := 20, descriptorIndex := 21, attributes := #[] }, { accessFlags := 9, nameIndex := 27, descriptorIndex := 28, attributes := #[] }] 49 2 #[] #[])
  fields := #[]
  methods := #[k1m0, k1m1, k1m2]
  instanceTypes := #[]
  staticTypes := #[]
  resolved := Array.replicate 33 none
  statics := none }

def pool2 : Array CpInfo := pool [(3, .class_ 4), (0, u "com/example/orphean/orphean/Blowfish"), (1, .class_ 8), (1, u "java/lang/Object"), (0, u "<init>"), (0, u "()V"), (4, u "INITIAL_STATE"), (0, u "[J"), (6, .methodref 3 24), (0, .nameAndType 25 26), (0, u "cyclicWord"), (0, u "([BIIZ)I"), (16, u "KEY_WORDS"), (0, u "I"), (2, u "STATE_WORDS"), (1, u "BLOCK_WORDS"), (1, u "ROUNDS"), (1, u "NO_CARRIES"), (0, u "J"), (2, u "S0"), (0, u "S1"), (1, u "S2"), (1, u "S3"), (5, u "cyclicWords"), (0, u "([BIIZ)[I")] 12

def k2m0 : Method := { name := "<init>", desc := "()V", sig := { parameters := [], returnType := none }, accessFlags := 2, code := none }
def k2c1 : Code := { maxStack := 6, maxLocals := 6, code := prog_9_method_4_code, exceptionTable := #[], attributes := #[] }
def k2m1 : Method := { name := "cyclicWords", desc := "([BIIZ)[I", sig := { parameters := [(.array .byte), .int, .int, .boolean], returnType := some (.array .int) }, accessFlags := 8, code := some k2c1 }
def k2c2 : Code := { maxStack := 3, maxLocals := 7, code := prog_9_method_6_code, exceptionTable := #[], attributes := #[] }
def k2m2 : Method := { name := "cyclicWord", desc := "([BIIZ)I", sig := { parameters := [(.array .byte), .int, .int, .boolean], returnType := some .int }, accessFlags := 10, code := some k2c2 }
/-- com/example/orphean/orphean/Blowfish -/
def k2 : Class := { plain "com/example/orphean/orphean/Blowfish" (some 0) with
  accessFlags := 48
  interfaces := #[]
  cf := some (fileOf pool2 3 #[] #[{ accessFlags := 2, nameIndex := 9, descriptorIndex := 10, attributes := #[] }, { accessFlags := 8, nameIndex := 68, descriptorIndex := 69, attributes := #[] }, { accessFlags := 10, nameIndex := 25, descriptorIndex := 26, attributes := #[] }] 48 6 #[] #[{ accessFlags := 24, nameIndex := 43, descriptorIndex := 44, attributes := #[] }, { accessFlags := 24, nameIndex := 47, descriptorIndex := 44, attributes := #[] }, { accessFlags := 24, nameIndex := 49, descriptorIndex := 44, attributes := #[] }, { accessFlags := 24, nameIndex := 51, descriptorIndex := 44, attributes := #[] }, { accessFlags := 24, nameIndex := 53, descriptorIndex := 54, attributes := #[] }, { accessFlags := 26, nameIndex := 57, descriptorIndex := 44, attributes := #[] }, { accessFlags := 26, nameIndex := 58, descriptorIndex := 44, attributes := #[] }, { accessFlags := 26, nameIndex := 60, descriptorIndex := 44, attributes := #[] }, { accessFlags := 26, nameIndex := 62, descriptorIndex := 44, attributes := #[] }, { accessFlags := 26, nameIndex := 15, descriptorIndex := 16, attributes := #[] }])
  fields := #[{ name := "KEY_WORDS", type := .int, accessFlags := 24, slot := 0, constantValue := 0 }, { name := "STATE_WORDS", type := .int, accessFlags := 24, slot := 1, constantValue := 0 }, { name := "BLOCK_WORDS", type := .int, accessFlags := 24, slot := 2, constantValue := 0 }, { name := "ROUNDS", type := .int, accessFlags := 24, slot := 3, constantValue := 0 }, { name := "NO_CARRIES", type := .long, accessFlags := 24, slot := 4, constantValue := 0 }, { name := "S0", type := .int, accessFlags := 26, slot := 5, constantValue := 0 }, { name := "S1", type := .int, accessFlags := 26, slot := 6, constantValue := 0 }, { name := "S2", type := .int, accessFlags := 26, slot := 7, constantValue := 0 }, { name := "S3", type := .int, accessFlags := 26, slot := 8, constantValue := 0 }, { name := "INITIAL_STATE", type := (.array .long), accessFlags := 26, slot := 9, constantValue := 0 }]
  methods := #[k2m0, k2m1, k2m2]
  instanceTypes := #[]
  staticTypes := #[.int, .int, .int, .int, .long, .int, .int, .int, .int, (.array .long)]
  resolved := Array.replicate 82 none
  statics := none }

def pool3 : Array CpInfo := pool [(1, u "java/lang/Cloneable"), (0, .class_ 1), (0, u "java/lang/Object"), (0, .class_ 3)] 3

/-- java/lang/Cloneable -/
def k3 : Class := { plain "java/lang/Cloneable" (some 0) with
  accessFlags := 1537
  interfaces := #[]
  cf := some (fileOf pool3 2 #[] #[] 1537 4 #[] #[])
  fields := #[]
  methods := #[]
  instanceTypes := #[]
  staticTypes := #[]
  resolved := Array.replicate 8 none
  statics := none }

def pool4 : Array CpInfo := pool [(1, u "java/io/Serializable"), (0, .class_ 1), (0, u "java/lang/Object"), (0, .class_ 3)] 3

/-- java/io/Serializable -/
def k4 : Class := { plain "java/io/Serializable" (some 0) with
  accessFlags := 1537
  interfaces := #[]
  cf := some (fileOf pool4 2 #[] #[] 1537 4 #[] #[])
  fields := #[]
  methods := #[]
  instanceTypes := #[]
  staticTypes := #[]
  resolved := Array.replicate 8 none
  statics := none }

/-- the primitive byte -/
def k5 : Class := { plain "byte" none with kind := .primitive 'B', accessFlags := 0x411 }
/-- [B -/
def k6 : Class := { plain "[B" (some 0) with kind := .array 5 .byte, interfaces := #[3, 4], accessFlags := 1041 }

/-- the primitive int -/
def k7 : Class := { plain "int" none with kind := .primitive 'I', accessFlags := 0x411 }
/-- [I -/
def k8 : Class := { plain "[I" (some 0) with kind := .array 7 .int, interfaces := #[3, 4], accessFlags := 1041 }

def heap : Heap := #[]
def classes : Array Class := #[k0, k1, k2, k3, k4, k5, k6, k7, k8]
def interned : List (Array UInt16 × Addr) := []
def slotsUsed : Nat := 0
def theMethod : MethodId := ⟨1, 2⟩
def args0 : Array Value := #[.long 5, .int 4, .int 3, .int 1]
def aboutOver (below : List Frame) : State where
  vm := { classes := classes, interned := interned.toArray }
  heap := heap
  slotsUsed := slotsUsed
  threads := #[{ frames := .invoking theMethod args0 :: below }]
def below0 : List Frame := [.native { method := ⟨0, 0⟩, args := #[] }]
def about1 : State := aboutOver below0
def p0 : Program := .bare "" "" ""
def e0 : Env := launch0.env 0 0 0
theorem w_frames : about1.frames = Frame.invoking theMethod args0 :: below0 := rfl
set_option maxRecDepth 65536 in
theorem w_args : argsFit about1.vm theMethod args0 = true := by decide +kernel
set_option maxRecDepth 65536 in
theorem w_heap : heapFits about1 = true := by decide +kernel
set_option maxRecDepth 65536 in
theorem w_runnable : about1.curStatus? = some .runnable := by decide +kernel
set_option maxRecDepth 65536 in
theorem w_alone : about1.alone = true := by decide +kernel
set_option maxRecDepth 65536 in
theorem w_named : about1.methodNamed? x = some theMethod := by decide +kernel
set_option maxRecDepth 65536 in
theorem w_hears : about1.hears theMethod below0 = true := by decide +kernel
set_option maxRecDepth 65536 in
theorem w_ripe : about1.ripe theMethod args0 below0 = true := by decide +kernel
theorem w_running : about1.status = .running := rfl
set_option maxRecDepth 65536 in
theorem w_room : about1.hasRoom e0.platform room_1 = true :=
  launch0.hasRoom_least _ room_1 (by decide +kernel) (by decide +kernel) (by decide +kernel) (by decide +kernel) (by decide +kernel) (by decide +kernel)
theorem allAtoms_all (ts : List Jvm.Cond) (a : Array Jvm.Value) (st : Jvm.State) : (allAtoms ts).before a st = ts.all (fun c => c.before a st) := by
  induction ts with
  | nil => rfl
  | cons c t ih =>
    show (Jvm.Cond.and c (allAtoms t)).before a st = _
    rw [Jvm.Cond.before_and, ih, List.all_cons]
def words1 : List Jvm.Cond := Jvm.Cond.code x code maxLocals ret :: tables_1
/-- a 'code' word, met by the world's own term for the bytes: nothing is compared byte by byte -/
theorem code_word {y : MethodName} {bytes : ByteArray} {mx : Nat} {rt : Option FieldType} {a : Array Value} {s : State} {m : MethodId} {meth : Method} {c : Code} (h1 : s.methodNamed? y = some m) (h2 : s.vm.method? m = some meth) (h3 : meth.code = some c) (h4 : c.code = bytes)
    (h5 : (c.maxLocals == mx && c.exceptionTable.isEmpty && decide (c.maxStack ≤ mostOperands) && decide (meth.sig.returnType = rt) && !meth.locks && decide (parseMethodDescriptor y.desc = some meth.sig)) = true) : (Jvm.Cond.code y bytes mx rt).before a s = true := by
  simp only [Bool.and_eq_true, beq_iff_eq, Bool.not_eq_true', decide_eq_true_eq] at h5
  obtain ⟨⟨⟨⟨⟨g1, g2⟩, g3⟩, g4⟩, g5⟩, g6⟩ := h5
  simp [Cond.before, Cond.holds, Cond.value, h1, h2, h3, h4, g1, g2, g3, g4, g5, g6]
def isCode : Jvm.Cond → Bool
  | .code _ _ _ _ => true
  | _ => false
theorem all_split {L : List Jvm.Cond} {P : Jvm.Cond → Bool} (h1 : L.all (fun c => isCode c || P c) = true) (h2 : ∀ c ∈ L.filter isCode, P c = true) : L.all P = true := by
  refine List.all_eq_true.mpr fun c hc => ?_
  have h := List.all_eq_true.mp h1 c hc
  rcases Bool.eq_false_or_eq_true (isCode c) with hi | hi
  · exact h2 c (List.mem_filter.mpr ⟨hc, hi⟩)
  · simpa [hi] using h
set_option maxRecDepth 65536 in
theorem w_c0 : (Jvm.Cond.code x code maxLocals ret).before args0 about1 = true := code_word (m := ⟨1, 2⟩) (meth := k1m2) (c := k1c2) (by decide +kernel) rfl rfl rfl (by decide +kernel)
set_option maxRecDepth 65536 in
theorem w_c1 : (Jvm.Cond.code ({ cls := "com/example/orphean/orphean/Blowfish", name := "cyclicWords", desc := "([BIIZ)[I" } : Jvm.MethodName) prog_9_method_4_code (6 : Nat) (Option.some (Jvm.ClassFile.FieldType.array Jvm.ClassFile.FieldType.int))).before args0 about1 = true := code_word (m := ⟨2, 1⟩) (meth := k2m1) (c := k2c1) (by decide +kernel) rfl rfl rfl (by decide +kernel)
set_option maxRecDepth 65536 in
theorem w_c2 : (Jvm.Cond.code ({ cls := "com/example/orphean/orphean/Blowfish", name := "cyclicWord", desc := "([BIIZ)I" } : Jvm.MethodName) prog_9_method_6_code (7 : Nat) (Option.some Jvm.ClassFile.FieldType.int)).before args0 about1 = true := code_word (m := ⟨2, 2⟩) (meth := k2m2) (c := k2c2) (by decide +kernel) rfl rfl rfl (by decide +kernel)
set_option maxRecDepth 65536 in
theorem w_c3 : (Jvm.Cond.code ({ cls := "com/example/orphean/orphean/BlowfishCyclicWordsPinLaw", name := "expected", desc := "([BIIZ)I" } : Jvm.MethodName) method_2_code (10 : Nat) (Option.some Jvm.ClassFile.FieldType.int)).before args0 about1 = true := code_word (m := ⟨1, 1⟩) (meth := k1m1) (c := k1c1) (by decide +kernel) rfl rfl rfl (by decide +kernel)
def codes1 : List Jvm.Cond := [Jvm.Cond.code x code maxLocals ret, Jvm.Cond.code ({ cls := "com/example/orphean/orphean/Blowfish", name := "cyclicWords", desc := "([BIIZ)[I" } : Jvm.MethodName) prog_9_method_4_code (6 : Nat) (Option.some (Jvm.ClassFile.FieldType.array Jvm.ClassFile.FieldType.int)), Jvm.Cond.code ({ cls := "com/example/orphean/orphean/Blowfish", name := "cyclicWord", desc := "([BIIZ)I" } : Jvm.MethodName) prog_9_method_6_code (7 : Nat) (Option.some Jvm.ClassFile.FieldType.int), Jvm.Cond.code ({ cls := "com/example/orphean/orphean/BlowfishCyclicWordsPinLaw", name := "expected", desc := "([BIIZ)I" } : Jvm.MethodName) method_2_code (10 : Nat) (Option.some Jvm.ClassFile.FieldType.int)]
set_option maxRecDepth 65536 in
theorem codes_eq : words1.filter isCode = codes1 := rfl
theorem w_codes : ∀ c ∈ words1.filter isCode, c.before args0 about1 = true := by
  rw [codes_eq]
  intro c hc
  simp only [codes1, List.mem_cons, List.not_mem_nil, or_false] at hc
  rcases hc with rfl | rfl | rfl | rfl
  · exact w_c0
  · exact w_c1
  · exact w_c2
  · exact w_c3
set_option maxRecDepth 65536 in
theorem w_t1 : words1.all (fun c => isCode c || c.before args0 about1) = true := by decide +kernel
theorem w_tables : (allAtoms (Jvm.Cond.code x code maxLocals ret :: tables_1)).before args0 about1 = true := by
  rw [allAtoms_all]
  show words1.all (fun c => c.before args0 about1) = true
  refine all_split ?_ w_codes
  rw [w_t1]
set_option maxRecDepth 65536 in
theorem w_case : (Jvm.Cond.and given_1 narrow_1).before args0 about1 = true := by decide +kernel
theorem w_applies : (headSpec (Jvm.Cond.code x code maxLocals ret :: tables_1) room_1).applies x e0.platform about1 = true :=
  (Spec.applies_iff w_frames).mpr ⟨w_running, w_runnable, w_alone, w_named, w_hears, w_ripe, w_room, w_tables⟩
theorem atStart : AtStart classFile x code maxLocals ret World_1 tables_1 room_1 Calls_1 rest_1 Pre_1 launch0 p0 e0 about1 theMethod args0 below0 :=
  ⟨lists_1, trivial, launch0.admits_env _ _ _, launch0.least_env, fairChoices_fair.cas, fairChoices_fair.clock, w_frames, w_args, w_heap, w_applies, trivial, trivial, w_case⟩
end start1
theorem witness_1 : WitnessClaimed_1 := ⟨start1.p0, start1.e0, start1.about1, start1.theMethod, start1.args0, start1.below0, start1.atStart⟩
end Jvm.Pilot.@@N@@
