import JvmDerived
import JvmDerived.Pilot.@@N@@Statement
import JvmDerived.Pilot.@@N@@Code
set_option linter.unusedVariables false
set_option linter.unusedSimpArgs false
namespace Jvm.OwnKit
open Sem ClassFile Op Lib Jvm.Stand Jvm.Free Jvm.LawKit Jvm.RoadKit
/-! A small layer of my own over the library's laws: 'Goes': from this frame the body comes to its end; each law turned so that it reads backwards. -/
def Goes (tb : Tables) (e : Env) (below : List Frame) (Φ : Outcome → State → Prop) (T : State) (f : JFrame) : Prop :=
  ∃ s₂ o, Steps tb e below (T.setTop f) s₂ ∧ s₂.status = .running ∧ Ended s₂ below o ∧ Φ o s₂
def Fine (s : State) (n0 : Nat) (Q : Option Value → Heap → Prop) (rc rs : Nat) (o : Outcome) (U : State) : Prop :=
  ∃ v L, o = .returned v ∧ (Fr n0 L ∧ Q v U.heap) ∧ FrameEnd s o U L rc rs
def Base (p : Program) (s : State) (m : MethodId) (meth : Method) (c : Code) (Z : State) (y : MethodName) (bytes : ByteArray) (maxL : Nat) (ret : Option FieldType) : Prop :=
  p.tables.exec = Jvm.exec ∧ Z.Warmed39 s.vm ∧ c.code = bytes ∧ c.maxLocals = maxL ∧ s.vm.findClass y.cls = some m.cls ∧ meth.name = y.name ∧ meth.sig.returnType = ret ∧ meth.locks = false
def Sd (p : Program) (l : Launch) (e : Env) (R : Room) (s : State) (m : MethodId) (args : Array Value) (below : List Frame) (meth : Method) (c : Code) (T : State) (h : Heap) (n0 cells slots : Nat) : Prop :=
  ∃ locs, Stand p l e R s m args below meth c T locs cells slots ∧ T.heap = h ∧ Fr n0 locs ∧ n0 ≤ s.heap.size
def Con (l : Launch) (Z : State) (y : MethodName) (bytes : ByteArray) (maxL : Nat) (ret : Option FieldType) (rm : Room) (as' : Array Value) (h0 : Heap) (n0 : Nat) (Q : Option Value → Heap → Prop) : Prop :=
  n0 ≤ h0.size → ∀ ws : List Cond, MetFree l y (head1 (Cond.code y bytes maxL ret :: ws) rm) (fun a U => a = as' ∧ Z.Warmed39 U.vm ∧ U.heap = h0) (fun _ _ _ _ _ => True) (fun _ U o U' => ∃ v L, o = .returned v ∧ (Fr n0 L ∧ Q v U'.heap) ∧ FrameEnd U o U' L rm.cells rm.slots)
/-! a condition as 1 or 0 -/
def bi (P : Prop) [Decidable P] : Int32 := if P then 1 else 0
theorem bi_pos {P : Prop} [Decidable P] (h : P) : bi P = 1 := if_pos h
theorem bi_neg {P : Prop} [Decidable P] (h : ¬ P) : bi P = 0 := if_neg h
theorem bi_ne {P : Prop} [Decidable P] (h : P) : ¬ bi P = 0 := by rw [bi_pos h]; decide
theorem bi_congr {P P' : Prop} [Decidable P] [Decidable P'] (h : P ↔ P') : bi P = bi P' := by by_cases q : P <;> simp [bi, q, h.mp, ← h]
theorem bi_one {P : Prop} [Decidable P] : bi P = 1 ↔ P := by by_cases q : P <;> simp [bi, q]
theorem bi_zero {P : Prop} [Decidable P] : bi P = 0 ↔ ¬ P := by by_cases q : P <;> simp [bi, q]
theorem bi_inj {P P' : Prop} [Decidable P] [Decidable P'] : bi P = bi P' ↔ (P ↔ P') := by by_cases q : P <;> by_cases q' : P' <;> simp [bi, q, q']
theorem bi_or {P : Prop} [Decidable P] : bi P = 0 ∨ bi P = 1 := by by_cases q : P <;> simp [bi, q]
theorem nar_bi {P : Prop} [Decidable P] : nar .boolean (bi P) = bi P := by by_cases q : P <;> simp [bi, q, nar]
theorem fits_bi {P : Prop} [Decidable P] : fits .boolean (.int (bi P)) = true := by by_cases q : P <;> simp [bi, q] <;> decide
theorem narrow_bi {P : Prop} [Decidable P] : narrow .boolean (.int (bi P)) = .int (bi P) := by by_cases q : P <;> simp [bi, q] <;> rfl
section Lay
variable {p : Program} {l : Launch} {e : Env} {R : Room} {s : State} {m : MethodId} {args : Array Value} {below : List Frame} {meth : Method} {c : Code} {T : State} {h : Heap} {n0 cells slots : Nat} {Z : State} {a0 : Array Value} {Φ : Outcome → State → Prop} {y0 : MethodName} {bytes0 : ByteArray} {maxL0 : Nat} {ret0 : Option FieldType} {pc : Nat} {Ls : Array Slot} {st rest : List Value}
theorem Goes.go {tb : Tables} {T' : State} {f f' : JFrame} (k : ∀ t, Steps tb e below (T'.setTop f') t → Steps tb e below (T.setTop f) t) (g : Goes tb e below Φ T' f') : Goes tb e below Φ T f := by
  obtain ⟨s2, o, h1, h2⟩ := g
  exact ⟨s2, o, k _ h1, h2⟩
theorem Goes.dia {tb : Tables} {P : Prop} [Decidable P] {f : JFrame} {mk : Int32 → JFrame} (h1 : P → Goes tb e below Φ T (mk 1) → Goes tb e below Φ T f) (h0 : ¬ P → Goes tb e below Φ T (mk 0) → Goes tb e below Φ T f) (k : Goes tb e below Φ T (mk (bi P))) : Goes tb e below Φ T f := by
  by_cases q : P
  · rw [bi_pos q] at k; exact h1 q k
  · rw [bi_neg q] at k; exact h0 q k
theorem Goes.cast {tb : Tables} {f f' : JFrame} (q : f = f') (g : Goes tb e below Φ T f') : Goes tb e below Φ T f := q ▸ g
theorem Sd.here (S : Sd p l e R s m args below meth c T h n0 cells slots) : At T m c below := by obtain ⟨_, X, -⟩ := S; exact X.here
theorem Sd.le (S : Sd p l e R s m args below meth c T h n0 cells slots) : n0 ≤ h.size := by
  obtain ⟨_, X, e, -, q⟩ := S
  have h1 := X.same.2.1
  have h2 : s.heap.size ≤ T.heap.size := h1
  rw [e] at h2
  exact Nat.le_trans q h2
theorem Base.x (B : Base p s m meth c Z y0 bytes0 maxL0 ret0) : p.tables.exec = Jvm.exec := B.1
theorem Base.d (B : Base p s m meth c Z y0 bytes0 maxL0 ret0) {r : Except DecodeError (Instr × Nat)} (hd : decode bytes0 pc = r) : decode c.code pc = r := B.2.2.1 ▸ hd
theorem Con.body {y : MethodName} {bytes : ByteArray} {maxL : Nat} {ret : Option FieldType} {rm : Room} {as' : Array Value} {h0 : Heap} {Q : Option Value → Heap → Prop} (hpl : plainFor y = true)
    (k : ∀ (p : Program) (e : Env) (s : State) (m : MethodId) (below : List Frame) (meth : Method) (c : Code) (T : State), Base p s m meth c Z y bytes maxL ret → Sd p l e rm s m as' below meth c T h0 n0 0 0 → Goes p.tables e below (Fine s n0 Q rm.cells rm.slots) T (entryFrame m as' maxL)) :
    Con l Z y bytes maxL ret rm as' h0 n0 Q := by
  intro hn ws
  refine MetFree.of_bodySF hpl hisR ?_
  intro p e s m args below meth c s₁ Bd hml0 hP hK
  obtain ⟨rfl, hZ, hh⟩ := hP
  have e0 : s₁.heap = h0 := by rw [← hh, Bd.state]; rfl
  exact k p e s m below meth c s₁ ⟨Bd.exec, hZ, Bd.bytes, hml0, findClass_of_methodNamed Bd.named, (name_of_methodNamed Bd.named Bd.method).1, Bd.returns, Bd.notSynchronized⟩ ⟨[], Stand.of_body Bd, e0, Fr.nil n0, by rw [hh]; exact hn⟩
theorem Goes.acmp {cd : ACond} {x y : Value} {o : Int} {pc' : Nat} {same : Bool} (S : Sd p l e R s m args below meth c T h n0 cells slots) (B : Base p s m meth c Z y0 bytes0 maxL0 ret0) (h1 : x.isRef = true) (h2 : y.isRef = true) (hd : decode bytes0 pc = .ok (.if_acmp cd o, 3)) (hq : decide (x = y) = same) (ho : 0 ≤ (pc : Int) + o) (hp : pc' = if acV cd same = true then ((pc : Int) + o).toNat else pc + 3)
    (k : Goes p.tables e below Φ T (mkF m pc' Ls rest)) : Goes p.tables e below Φ T (mkF m pc Ls (y :: x :: rest)) := by
  obtain ⟨locs, X, eT, N, hn⟩ := S
  exact Goes.go (fun t => RoadKit.acmp X B.1 (g := mkF m pc Ls (y :: x :: rest)) rfl h1 h2 (pc0 := pc) (pc' := pc') (same := same) rfl (B.d hd) rfl hq ho hp) k
theorem Goes.pop2L {z : Int64} (S : Sd p l e R s m args below meth c T h n0 cells slots) (B : Base p s m meth c Z y0 bytes0 maxL0 ret0) (hd : decode bytes0 pc = .ok (.pop2, 1)) (k : Goes p.tables e below Φ T (mkF m (pc + 1) Ls rest)) : Goes p.tables e below Φ T (mkF m pc Ls (.long z :: rest)) := by
  obtain ⟨locs, X, eT, N, hn⟩ := S
  refine Goes.go (fun t kk => ?_) k
  have hx := B.1
  have hd' := B.d hd
  show Steps p.tables e below (T.setTop { method := m, pc := pc, locals := Ls, stack := _ :: rest, locked := none }) _
  jvm_step X.here [X.here.top, hx, hd', Value.category]
  exact kk
theorem Goes.irem {x y : Int32} (S : Sd p l e R s m args below meth c T h n0 cells slots) (B : Base p s m meth c Z y0 bytes0 maxL0 ret0) (hd : decode bytes0 pc = .ok (.irem, 1)) (hy : y ≠ 0) (k : Goes p.tables e below Φ T (mkF m (pc + 1) Ls (.int (x % y) :: rest))) : Goes p.tables e below Φ T (mkF m pc Ls (.int y :: .int x :: rest)) := by
  obtain ⟨locs, X, eT, N, hn⟩ := S
  exact Goes.go (fun t => RoadKit.iremM X B.1 (g := mkF m pc Ls (.int y :: .int x :: rest)) rfl (B.d hd) rfl hy) k
theorem Goes.lrem {x y : Int64} (S : Sd p l e R s m args below meth c T h n0 cells slots) (B : Base p s m meth c Z y0 bytes0 maxL0 ret0) (hd : decode bytes0 pc = .ok (.lrem, 1)) (hy : y ≠ 0) (k : Goes p.tables e below Φ T (mkF m (pc + 1) Ls (.long (x % y) :: rest))) : Goes p.tables e below Φ T (mkF m pc Ls (.long y :: .long x :: rest)) := by
  obtain ⟨locs, X, eT, N, hn⟩ := S
  refine Goes.go (fun t kk => XS.lrem X.here B.1 (g := mkF m pc Ls (.long y :: .long x :: rest)) rfl (B.d hd) rfl hy ?_) k
  rw [lrem_mod]
  exact kk
/-! the ends -/
section Ends
variable {Q : Option Value → Heap → Prop} {rc rs : Nat}
theorem Goes.retV (S : Sd p l e R s m args below meth c T h n0 cells slots) (B : Base p s m meth c Z y0 bytes0 maxL0 none) (hd : decode bytes0 pc = .ok (.return_, 1)) (hc : cells ≤ rc) (hs : slots ≤ rs) (hq : Q none h) :
    Goes p.tables e below (Fine s n0 Q rc rs) T (mkF m pc Ls []) := by
  obtain ⟨locs, X, eT, N, -⟩ := S
  obtain ⟨fs, hr, hrun, hended, hW, hsame⟩ := X.leave (v := none) (fun _ => rfl) B.2.2.2.2.2.2.2
  subst eT
  exact ⟨_, _, X.returnOut B.1 B.2.2.2.2.2.2.1 (B.d hd) hr, hrun, hended, _, _, rfl, ⟨N, hq⟩, ⟨_, rfl⟩, hW, hsame.mono hc hs⟩
theorem Goes.retN {t : FieldType} {z : Int32} (S : Sd p l e R s m args below meth c T h n0 cells slots) (B : Base p s m meth c Z y0 bytes0 maxL0 (some t)) (ht : t = .boolean ∨ t = .byte ∨ t = .char ∨ t = .short) (hd : decode bytes0 pc = .ok (.ireturn, 1)) (hc : cells ≤ rc) (hs : slots ≤ rs) (hq : Q (some (.int (nar t z))) h) :
    Goes p.tables e below (Fine s n0 Q rc rs) T (mkF m pc Ls (.int z :: rest)) := by
  obtain ⟨locs, X, eT, N, -⟩ := S
  obtain ⟨fs, hr, hrun, hended, hW, hsame⟩ := X.leave (v := some (.int (nar t z))) (fun h => by rw [B.2.2.2.2.2.2.1] at h; cases h) B.2.2.2.2.2.2.2
  subst eT
  exact ⟨_, _, RoadKit.retN X B.1 B.2.2.2.2.2.2.1 ht (B.d hd) hr, hrun, hended, _, _, rfl, ⟨N, hq⟩, ⟨_, rfl⟩, hW, hsame.mono hc hs⟩
theorem Goes.retI {z : Int32} (S : Sd p l e R s m args below meth c T h n0 cells slots) (B : Base p s m meth c Z y0 bytes0 maxL0 (some .int)) (hd : decode bytes0 pc = .ok (.ireturn, 1)) (hc : cells ≤ rc) (hs : slots ≤ rs) (hq : Q (some (.int z)) h) :
    Goes p.tables e below (Fine s n0 Q rc rs) T (mkF m pc Ls (.int z :: rest)) := by
  obtain ⟨locs, X, eT, N, -⟩ := S
  obtain ⟨fs, hr, hrun, hended, hW, hsame⟩ := X.leave (v := some (.int z)) (fun h => by rw [B.2.2.2.2.2.2.1] at h; cases h) B.2.2.2.2.2.2.2
  subst eT
  refine ⟨_, _, ?_, hrun, hended, _, _, rfl, ⟨N, hq⟩, ⟨_, rfl⟩, hW, hsame.mono hc hs⟩
  have hm' : T.vm.method? m = some meth := X.method'
  have hn : narrow .int (.int z) = .int z := rfl
  have hx := B.1
  have hret := B.2.2.2.2.2.2.1
  have hd' := B.d hd
  show Steps p.tables e below (T.setTop { method := m, pc := pc, locals := Ls, stack := _ :: rest, locked := none }) _
  jvm_step X.here [X.here.top, hx, hd', hm', hret, hn]
  first | (intro acts; rw [hr _ acts rfl rfl rfl]) | rw [hr _ _ rfl rfl rfl]
  exact Steps.refl _
theorem Goes.retL {z : Int64} (S : Sd p l e R s m args below meth c T h n0 cells slots) (B : Base p s m meth c Z y0 bytes0 maxL0 (some .long)) (hd : decode bytes0 pc = .ok (.lreturn, 1)) (hc : cells ≤ rc) (hs : slots ≤ rs) (hq : Q (some (.long z)) h) :
    Goes p.tables e below (Fine s n0 Q rc rs) T (mkF m pc Ls (.long z :: rest)) := by
  obtain ⟨locs, X, eT, N, -⟩ := S
  obtain ⟨fs, hr, hrun, hended, hW, hsame⟩ := X.leave (v := some (.long z)) (fun h => by rw [B.2.2.2.2.2.2.1] at h; cases h) B.2.2.2.2.2.2.2
  subst eT
  refine ⟨_, _, ?_, hrun, hended, _, _, rfl, ⟨N, hq⟩, ⟨_, rfl⟩, hW, hsame.mono hc hs⟩
  have hm' : T.vm.method? m = some meth := X.method'
  have hx := B.1
  have hret := B.2.2.2.2.2.2.1
  have hd' := B.d hd
  show Steps p.tables e below (T.setTop { method := m, pc := pc, locals := Ls, stack := _ :: rest, locked := none }) _
  jvm_step X.here [X.here.top, hx, hd', hm', hret, narrow]
  first | (intro acts; rw [hr _ acts rfl rfl rfl]) | rw [hr _ _ rfl rfl rfl]
  exact Steps.refl _
theorem Goes.retA {b : Addr} {t : FieldType} (S : Sd p l e R s m args below meth c T h n0 cells slots) (B : Base p s m meth c Z y0 bytes0 maxL0 (some t)) (ht : t.isReference = true) (hd : decode bytes0 pc = .ok (.areturn, 1)) (hc : cells ≤ rc) (hs : slots ≤ rs) (hq : Q (some (.ref b)) h) :
    Goes p.tables e below (Fine s n0 Q rc rs) T (mkF m pc Ls (.ref b :: rest)) := by
  obtain ⟨locs, X, eT, N, -⟩ := S
  obtain ⟨fs, hr, hrun, hended, hW, hsame⟩ := X.leave (v := some (.ref b)) (fun h => by rw [B.2.2.2.2.2.2.1] at h; cases h) B.2.2.2.2.2.2.2
  subst eT
  refine ⟨_, _, ?_, hrun, hended, _, _, rfl, ⟨N, hq⟩, ⟨_, rfl⟩, hW, hsame.mono hc hs⟩
  have hm' : T.vm.method? m = some meth := X.method'
  have hx := B.1
  have hret := B.2.2.2.2.2.2.1
  have hd' := B.d hd
  show Steps p.tables e below (T.setTop { method := m, pc := pc, locals := Ls, stack := _ :: rest, locked := none }) _
  jvm_step X.here [X.here.top, hx, hd', hm', hret, Value.isRef, ht]
  first | (intro acts; rw [hr _ acts rfl rfl rfl]) | rw [hr _ _ rfl rfl rfl]
  exact Steps.refl _
end Ends
/-! fields and objects -/
theorem Goes.getF {O n d : String} {index : Nat} {a : Addr} {v : Value} (S : Sd p l e R s m args below meth c T h n0 cells slots) (B : Base p s m meth c Z y0 bytes0 maxL0 ret0) (w : (Cond.fieldLink y0.cls index O n d).before a0 Z = true) (F : Fld Z h a O n d v) (hd : decode bytes0 pc = .ok (.getfield index, 3))
    (k : ∀ T', Sd p l e R s m args below meth c T' h n0 cells slots → Goes p.tables e below Φ T' (mkF m (pc + 3) Ls (v :: rest))) : Goes p.tables e below Φ T (mkF m pc Ls (.ref a :: rest)) := by
  obtain ⟨locs, X, eT, N, hn⟩ := S
  obtain ⟨T', X', e', stp⟩ := RoadKit.getF X B.1 B.2.1 B.2.2.2.2.1 (host := "") (Or.inl w) Via.refl eT F (g := mkF m pc Ls (.ref a :: rest)) rfl rfl (B.d hd)
  exact Goes.go stp (k T' ⟨locs, X', e', N, hn⟩)
theorem Goes.putF {O n d C : String} {index kk : Nat} {ty : FieldType} {a : Addr} {v v' old : Value} (S : Sd p l e R s m args below meth c T h n0 cells slots) (B : Base p s m meth c Z y0 bytes0 maxL0 ret0) (w : (Cond.fieldLink y0.cls index O n d).before a0 Z = true) (F : Fld Z h a O n d old) (E : Exa Z h a C)
    (L : (Cond.lays C O n d).before a0 Z = true ∨ ((Cond.laysFinal C O n d).before a0 Z = true ∧ y0.cls = O ∧ y0.name = "<init>")) (wi : (Cond.instantiable C kk).before a0 Z = true) (hty : parseFieldDescriptor d = some ty) (hnr : narrow ty v = v') (hf : fits ty v' = true) (ga : n0 ≤ a) (hd : decode bytes0 pc = .ok (.putfield index, 3))
    (k : ∀ T' h', Sd p l e R s m args below meth c T' h' n0 cells slots → Wr h h' a (RoadKit.slotOf Z O n d) v' → Goes p.tables e below Φ T' (mkF m (pc + 3) Ls rest)) : Goes p.tables e below Φ T (mkF m pc Ls (v :: .ref a :: rest)) := by
  obtain ⟨locs, X, eT, N, hn⟩ := S
  obtain ⟨T', h', X', e', W, stp⟩ := RoadKit.putFN X B.1 B.2.1 B.2.2.2.2.1 w Via.refl eT F E (L.imp id fun q => ⟨q.1, q.2.1, B.2.2.2.2.2.1.trans q.2.2⟩) wi hty hnr hf (g := mkF m pc Ls (v :: .ref a :: rest)) rfl rfl (B.d hd)
  exact Goes.go stp (k T' h' ⟨_, X', e', Fr.snoc X' N ga, hn⟩ W)
theorem Goes.newO {C : String} {index nn : Nat} (S : Sd p l e R s m args below meth c T h n0 cells slots) (B : Base p s m meth c Z y0 bytes0 maxL0 ret0) (w : (Cond.classLink y0.cls index C).before a0 Z = true) (wi : (Cond.instantiable C nn).before a0 Z = true) (wz : (Cond.initialized C).before a0 Z = true) (hd : decode bytes0 pc = .ok (.new index, 3)) (hc : cells + 1 ≤ R.cells) (hl : slots + nn ≤ R.slots)
    (k : ∀ T' h' b, Sd p l e R s m args below meth c T' h' n0 (cells + 1) (slots + nn) → Ext h h' → b = h.size → n0 ≤ b → Exa Z h' b C → (∀ {O nm d : String} {ty : FieldType}, Laid Z a0 C O nm d → parseFieldDescriptor d = some ty → Fld Z h' b O nm d (defaultValue ty)) → Goes p.tables e below Φ T' (mkF m (pc + 3) Ls (.ref b :: st))) :
    Goes p.tables e below Φ T (mkF m pc Ls st) := by
  have hle := S.le
  obtain ⟨locs, X, eT, N, hn⟩ := S
  obtain ⟨T', h', X', e', E, A, D, -, stp⟩ := RoadKit.newO X B.1 B.2.1 B.2.2.2.2.1 w wi wz eT (g := mkF m pc Ls st) rfl (B.d hd) hc hl
  exact Goes.go stp (k T' h' h.size ⟨locs, X', e', N, hn⟩ E rfl hle A D)
theorem Goes.initO {index : Nat} {a : Addr} {W : Nat} (S : Sd p l e R s m args below meth c T h n0 cells slots) (B : Base p s m meth c Z y0 bytes0 maxL0 ret0) (w1 : (Cond.methodLink y0.cls index Lib.objectInit).before a0 Z = true) (w2 : (Cond.instanceMethod Lib.objectInit).before a0 Z = true) (w3 : (Cond.code Lib.objectInit ⟨#[0xb1]⟩ 1 none).before a0 Z = true)
    (hd : decode bytes0 pc = .ok (.invokespecial index, 3)) (hsz : Ls.size = maxL0) (hf : 1 ≤ R.frames) (hW : 2 * 0 + (rest.map fun v => v.category).sum ≤ W) (hl : W + 12 ≤ R.locals)
    (k : ∀ T', Sd p l e R s m args below meth c T' h n0 cells slots → Goes p.tables e below Φ T' (mkF m (pc + 3) Ls rest)) : Goes p.tables e below Φ T (mkF m pc Ls (.ref a :: rest)) := by
  obtain ⟨locs, X, eT, N, hn⟩ := S
  obtain ⟨T', X', e', stp⟩ := RoadKit.initO X B.1 B.2.1 B.2.2.2.2.1 w1 w2 w3 eT (g := mkF m pc Ls (.ref a :: rest)) rfl (by rw [B.2.2.2.1]; exact hsz) rfl (B.d hd) hf hW hl
  exact Goes.go stp (k T' ⟨locs, X', e', N, hn⟩)
theorem Goes.ldcI {index : Nat} {v : Int32} (S : Sd p l e R s m args below meth c T h n0 cells slots) (B : Base p s m meth c Z y0 bytes0 maxL0 ret0) (w : (Cond.constant y0.cls index v).before a0 Z = true) (hd : decode bytes0 pc = .ok (.ldc index, 2)) (k : Goes p.tables e below Φ T (mkF m (pc + 2) Ls (.int v :: st))) : Goes p.tables e below Φ T (mkF m pc Ls st) := by
  obtain ⟨locs, X, eT, N, hn⟩ := S
  exact Goes.go (X.ldcInt B.1 B.2.2.2.2.1 (mvT B.2.1 w) (g := mkF m pc Ls st) rfl (B.d hd)) k
theorem Goes.ldcL {index : Nat} {v : Int64} (S : Sd p l e R s m args below meth c T h n0 cells slots) (B : Base p s m meth c Z y0 bytes0 maxL0 ret0) (w : (Cond.constantLong y0.cls index v).before a0 Z = true) (hd : decode bytes0 pc = .ok (.ldc2_w index, 3)) (k : Goes p.tables e below Φ T (mkF m (pc + 3) Ls (.long v :: st))) : Goes p.tables e below Φ T (mkF m pc Ls st) := by
  obtain ⟨locs, X, eT, N, hn⟩ := S
  exact Goes.go (X.ldc2Long B.1 B.2.2.2.2.1 (mvT B.2.1 w) (g := mkF m pc Ls st) rfl (B.d hd)) k
/-! calls -/
section Calls
variable {y : MethodName} {bytes : ByteArray} {maxL : Nat} {ret : Option FieldType} {rm : Room} {index W : Nat} {argsL : List Value} {Q : Option Value → Heap → Prop}
theorem Con.back {as' : Array Value} {len : Nat} (C : Con l Z y bytes maxL ret rm as' h n0 Q) (hn : n0 ≤ h.size) (hZ : Z.Warmed39 s.vm) (wc : (Cond.code y bytes maxL ret).before a0 Z = true) (wz : (Cond.initialized y.cls).before a0 Z = true) (hf : rm.frames + 1 ≤ R.frames) (hl : W + (maxL + 11) + rm.locals ≤ R.locals) :
    Back l R p e below s args y len W (fun A a => a = as' ∧ A.U.heap = h ∧ A.cells + rm.cells ≤ R.cells ∧ A.slots + rm.slots ≤ R.slots)
      (fun A _ v B => ∃ L, (Fr n0 L ∧ Q v B.U.heap) ∧ B.locs = A.locs ++ L ∧ B.cells = A.cells + rm.cells ∧ B.slots = A.slots + rm.slots) :=
  backOf (Q := fun v h L => Fr n0 L ∧ Q v h) (C hn []) hZ wc wz hf hl
theorem Goes.callS (S : Sd p l e R s m args below meth c T h n0 cells slots) (B : Base p s m meth c Z y0 bytes0 maxL0 ret0) (C : Con l Z y bytes maxL ret rm argsL.toArray h n0 Q) (wl : (Cond.methodLink y0.cls index y).before a0 Z = true) (ws : (Cond.static y).before a0 Z = true) (wi : (Cond.initialized y.cls).before a0 Z = true) (wc : (Cond.code y bytes maxL ret).before a0 Z = true)
    (hy : y.cls ≠ "java/lang/invoke/MethodHandle" ∧ y.cls ≠ "java/lang/invoke/VarHandle") (hf : rm.frames + 1 ≤ R.frames) (hlo : W + (maxL + 11) + rm.locals ≤ R.locals) (hc : cells + rm.cells ≤ R.cells) (hs : slots + rm.slots ≤ R.slots) (hsz : Ls.size = maxL0)
    (hlen : ∀ sig, parseMethodDescriptor y.desc = some sig → argsL.length = sig.parameters.length) (hst : st = argsL.reverse ++ rest) (hW : 2 * 0 + (rest.map fun v => v.category).sum ≤ W) (hd : decode bytes0 pc = .ok (.invokestatic index, 3))
    (k : ∀ v T' h', Sd p l e R s m args below meth c T' h' n0 (cells + rm.cells) (slots + rm.slots) → Q v h' → Goes p.tables e below Φ T' (mkF m (pc + 3) Ls (v.toList ++ rest))) : Goes p.tables e below Φ T (mkF m pc Ls st) := by
  have hle := S.le
  obtain ⟨locs, X, eT, N, hn⟩ := S
  subst hst
  obtain ⟨v, _, ⟨T', L', k', n'⟩, -, X', ⟨Lc, ⟨hN, hQ⟩, l1, y1, z1⟩, stp⟩ := Jvm.LawKit.callS X B.1 (y := y) B.2.2.2.2.1 (mvT B.2.1 wl) (mvT B.2.1 ws) (mvT B.2.1 wi) (mvT B.2.1 wc) hy (Con.back (W := W) C hle B.2.1 wc wi hf hlo) (g := mkF m pc Ls (argsL.reverse ++ rest)) rfl (by rw [B.2.2.2.1]; exact hsz) (argsL := argsL) (rest := rest) hlen rfl hW (B.d hd) (fun _ _ => ⟨rfl, eT, hc, hs⟩)
  dsimp only [Pt.U, Pt.locs, Pt.cells, Pt.slots] at X' l1 y1 z1 stp hQ
  subst l1 y1 z1
  exact Goes.go stp (k v T' T'.heap ⟨_, X', rfl, N.app hN, hn⟩ hQ)
theorem Goes.callI {b : Addr} (S : Sd p l e R s m args below meth c T h n0 cells slots) (B : Base p s m meth c Z y0 bytes0 maxL0 ret0) (C : Con l Z y bytes maxL none rm (.ref b :: argsL).toArray h n0 Q) (wl : (Cond.methodLink y0.cls index y).before a0 Z = true) (wim : (Cond.instanceMethod y).before a0 Z = true) (wi : (Cond.initialized y.cls).before a0 Z = true) (wc : (Cond.code y bytes maxL none).before a0 Z = true)
    (hy : y.cls ≠ "java/lang/invoke/MethodHandle" ∧ y.cls ≠ "java/lang/invoke/VarHandle") (hni : y.name = "<init>") (hf : rm.frames + 1 ≤ R.frames) (hlo : W + (maxL + 11) + rm.locals ≤ R.locals) (hc : cells + rm.cells ≤ R.cells) (hs : slots + rm.slots ≤ R.slots) (hsz : Ls.size = maxL0)
    (hlen : ∀ sig, parseMethodDescriptor y.desc = some sig → argsL.length = sig.parameters.length) (hst : st = argsL.reverse ++ .ref b :: rest) (hW : 2 * 0 + (rest.map fun v => v.category).sum ≤ W) (hd : decode bytes0 pc = .ok (.invokespecial index, 3))
    (k : ∀ v T' h', Sd p l e R s m args below meth c T' h' n0 (cells + rm.cells) (slots + rm.slots) → Q v h' → Goes p.tables e below Φ T' (mkF m (pc + 3) Ls (v.toList ++ rest))) : Goes p.tables e below Φ T (mkF m pc Ls st) := by
  have hle := S.le
  obtain ⟨locs, X, eT, N, hn⟩ := S
  subst hst
  obtain ⟨v, _, ⟨T', L', k', n'⟩, -, X', ⟨Lc, ⟨hN, hQ⟩, l1, y1, z1⟩, stp⟩ := X.specialBack B.1 (y := y) hni B.2.2.2.2.1 (mvT B.2.1 wl) (mvT B.2.1 wim) (mvT B.2.1 wc) hy (Con.back (W := W) C hle B.2.1 wc wi hf hlo) (g := mkF m pc Ls (argsL.reverse ++ .ref b :: rest)) rfl (by rw [B.2.2.2.1]; exact hsz) (Steps.refl _) (a := b) (argsL := argsL) (rest := rest) hlen rfl hW (B.d hd) (fun _ _ => ⟨rfl, eT, hc, hs⟩)
  dsimp only [Pt.U, Pt.locs, Pt.cells, Pt.slots] at X' l1 y1 z1 stp hQ
  subst l1 y1 z1
  exact Goes.go (fun t q => stp.trans q) (k v T' T'.heap ⟨_, X', rfl, N.app hN, hn⟩ hQ)
theorem Goes.callV {b : Addr} {K : String} (S : Sd p l e R s m args below meth c T h n0 cells slots) (B : Base p s m meth c Z y0 bytes0 maxL0 ret0) (C : Con l Z y bytes maxL ret rm (.ref b :: argsL).toArray h n0 Q) (E : Exa Z h b K) (wl : (Cond.methodLink y0.cls index y).before a0 Z = true) (wd : (Cond.declares y).before a0 Z = true) (wsel : (Cond.selects K y y).before a0 Z = true) (wim : (Cond.instanceMethod y).before a0 Z = true) (wi : (Cond.initialized y.cls).before a0 Z = true) (wc : (Cond.code y bytes maxL ret).before a0 Z = true)
    (hy : y.cls ≠ "java/lang/invoke/MethodHandle" ∧ y.cls ≠ "java/lang/invoke/VarHandle") (hf : rm.frames + 1 ≤ R.frames) (hlo : W + (maxL + 11) + rm.locals ≤ R.locals) (hc : cells + rm.cells ≤ R.cells) (hs : slots + rm.slots ≤ R.slots) (hsz : Ls.size = maxL0)
    (hlen : ∀ sig, parseMethodDescriptor y.desc = some sig → argsL.length = sig.parameters.length) (hst : st = argsL.reverse ++ .ref b :: rest) (hW : 2 * 0 + (rest.map fun v => v.category).sum ≤ W) (hd : decode bytes0 pc = .ok (.invokevirtual index, 3))
    (k : ∀ v T' h', Sd p l e R s m args below meth c T' h' n0 (cells + rm.cells) (slots + rm.slots) → Q v h' → Goes p.tables e below Φ T' (mkF m (pc + 3) Ls (v.toList ++ rest))) : Goes p.tables e below Φ T (mkF m pc Ls st) := by
  have hle := S.le
  obtain ⟨locs, X, eT, N, hn⟩ := S
  subst hst
  obtain ⟨cq, kq, qa, qb, qc⟩ := isOf B.2.1 eT E
  obtain ⟨v, _, ⟨T', L', k', n'⟩, -, X', ⟨Lc, ⟨hN, hQ⟩, l1, y1, z1⟩, stp⟩ := X.virtualBack B.1 (y := y) (z := y) B.2.2.2.2.1 (mvT B.2.1 wl) (mvT B.2.1 wd) (notFace_of_selects (args := #[]) (mvT B.2.1 wsel)) (mvT B.2.1 wsel) (mvT B.2.1 wim) hy (Con.back (W := W) C hle B.2.1 wc wi hf hlo) qa qc (g := mkF m pc Ls (argsL.reverse ++ .ref b :: rest)) rfl (by rw [B.2.2.2.1]; exact hsz) (Steps.refl _) (argsL := argsL) (rest := rest) hlen rfl hW (B.d hd) (fun _ _ => ⟨rfl, eT, hc, hs⟩)
  dsimp only [Pt.U, Pt.locs, Pt.cells, Pt.slots] at X' l1 y1 z1 stp hQ
  subst l1 y1 z1
  exact Goes.go (fun t q => stp.trans q) (k v T' T'.heap ⟨_, X', rfl, N.app hN, hn⟩ hQ)
theorem Goes.callP {b : Addr} {K : String} (S : Sd p l e R s m args below meth c T h n0 cells slots) (B : Base p s m meth c Z y0 bytes0 maxL0 ret0) (C : Con l Z y bytes maxL ret rm (.ref b :: argsL).toArray h n0 Q) (E : Exa Z h b K) (wl : (Cond.methodLink y0.cls index y).before a0 Z = true) (wp : (Cond.privateMethod y).before a0 Z = true) {kk : Nat} (wk : (Cond.instantiable y.cls kk).before a0 Z = true) (wim : (Cond.instanceMethod y).before a0 Z = true) (wi : (Cond.initialized y.cls).before a0 Z = true) (wc : (Cond.code y bytes maxL ret).before a0 Z = true)
    (hy : y.cls ≠ "java/lang/invoke/MethodHandle" ∧ y.cls ≠ "java/lang/invoke/VarHandle") (hf : rm.frames + 1 ≤ R.frames) (hlo : W + (maxL + 11) + rm.locals ≤ R.locals) (hc : cells + rm.cells ≤ R.cells) (hs : slots + rm.slots ≤ R.slots) (hsz : Ls.size = maxL0)
    (hlen : ∀ sig, parseMethodDescriptor y.desc = some sig → argsL.length = sig.parameters.length) (hst : st = argsL.reverse ++ .ref b :: rest) (hW : 2 * 0 + (rest.map fun v => v.category).sum ≤ W) (hd : decode bytes0 pc = .ok (.invokevirtual index, 3))
    (k : ∀ v T' h', Sd p l e R s m args below meth c T' h' n0 (cells + rm.cells) (slots + rm.slots) → Q v h' → Goes p.tables e below Φ T' (mkF m (pc + 3) Ls (v.toList ++ rest))) : Goes p.tables e below Φ T (mkF m pc Ls st) := by
  have hle := S.le
  obtain ⟨locs, X, eT, N, hn⟩ := S
  subst hst
  obtain ⟨cq, q1, q2⟩ := E.cell
  have hpr : s.PrivateAt y := Cond.privateMethod_at (mvP B.2.1 wp (args := #[]))
  have wsel : (Cond.selects y.cls y y).before args s = true := by
    obtain ⟨ci, ki, i1, i2, i3, i4, -⟩ := Cond.instantiable_spec (mvT B.2.1 wk (args := args))
    exact selects_self_of_private i1 i2 (Bool.or_eq_false_iff.mp i4).1 hpr (mvT B.2.1 wim) hy
  obtain ⟨v, _, ⟨T', L', k', n'⟩, -, X', ⟨Lc, ⟨hN, hQ⟩, l1, y1, z1⟩, stp⟩ := X.privateBack B.1 (y := y) B.2.2.2.2.1 (mvT B.2.1 wl) (mvT B.2.1 wim) wsel hpr (mvT B.2.1 wc) hy (Con.back (W := W) C hle B.2.1 wc wi hf hlo) (g := mkF m pc Ls (argsL.reverse ++ .ref b :: rest)) rfl (by rw [B.2.2.2.1]; exact hsz) (Steps.refl _) (a := b) (by rw [eT]; exact q1) q2 (argsL := argsL) (rest := rest) hlen rfl hW (B.d hd) (fun _ _ => ⟨rfl, eT, hc, hs⟩)
  dsimp only [Pt.U, Pt.locs, Pt.cells, Pt.slots] at X' l1 y1 z1 stp hQ
  subst l1 y1 z1
  exact Goes.go (fun t q => stp.trans q) (k v T' T'.heap ⟨_, X', rfl, N.app hN, hn⟩ hQ)
end Calls
/-! arrays: what lies at each place, as a function -/
def Ary (Z : State) (h : Heap) (a : Addr) (ty : FieldType) (n : Nat) (f : Nat → Value) : Prop := ∃ c : Cell, Arr Z h a c ty ∧ c.slots.size = n ∧ n < 2 ^ 31 ∧ ∀ i, i < n → c.slots[i]? = some (f i)
def aup {α : Type} (f : Nat → α) (i : Nat) (v : α) : Nat → α := fun k => if k = i then v else f k
theorem aup_int (g : Nat → Int32) (k : Nat) (x : Int32) : aup (fun i => Value.int (g i)) k (.int x) = fun i => .int (aup g k x i) := by
  funext i
  simp only [aup]
  split <;> rfl
theorem aup_long (g : Nat → Int64) (k : Nat) (x : Int64) : aup (fun i => Value.long (g i)) k (.long x) = fun i => .long (aup g k x i) := by
  funext i
  simp only [aup]
  split <;> rfl
section Arrays
variable {a b : Addr} {ty : FieldType} {n : Nat} {f : Nat → Value} {h' : Heap} {j : Int32} {v : Value} {sl : Nat} {ws : List Addr}
theorem Ary.lt (A : Ary Z h a ty n f) : a < h.size := by obtain ⟨c, A, -⟩ := A; exact A.lt
theorem Ary.ext (A : Ary Z h a ty n f) (E : Ext h h') : Ary Z h' a ty n f := by obtain ⟨c, A, r⟩ := A; exact ⟨c, A.ext E, r⟩
theorem Ary.other (A : Ary Z h b ty n f) (W : Wr h h' a sl v) (q : b ≠ a) : Ary Z h' b ty n f := by obtain ⟨c, A, r⟩ := A; exact ⟨c, A.other W q, r⟩
theorem Ary.keep (A : Ary Z h a ty n f) (K : Keep h h' ws) (q : a ∉ ws) : Ary Z h' a ty n f := by obtain ⟨c, A, r⟩ := A; exact ⟨c, ⟨K.2.1 a c A.1 q, A.2⟩, r⟩
theorem Ary.cast {g : Nat → Value} (A : Ary Z h a ty n f) (q : ∀ i, i < n → f i = g i) : Ary Z h a ty n g := by obtain ⟨c, A, r1, r2, r3⟩ := A; exact ⟨c, A, r1, r2, fun i hi => by rw [r3 i hi, q i hi]⟩
theorem Ary.new {z : Int32} {k : ClassId} (A : Arr Z h a (newA k ty z) ty) (q : ¬ z < 0) : Ary Z h a ty z.toNatClampNeg (fun _ => defaultValue ty) :=
  ⟨_, A, sz_new _ _ _, (back32 q).2, fun i hi => by simp [newA, hi]⟩
theorem Ary.set {i : Nat} (A : Ary Z h a ty n f) (W : Wr h h' a i v) (hi : i < n) : Ary Z h' a ty n (aup f i v) := by
  obtain ⟨c, A, r1, r2, r3⟩ := A
  refine ⟨_, A.same W, by rw [sz_set]; exact r1, r2, fun k hk => ?_⟩
  by_cases e : k = i
  · subst e
    simp [aup, Cell.setSlot, r1, hi]
  · have e' : i ≠ k := fun q => e q.symm
    simp only [aup, if_neg e, Cell.setSlot]
    rw [Array.getElem?_setIfInBounds_ne e']
    exact r3 k hk
theorem Goes.newP {aty : ArrayType} {z : Int32} {cap : Nat} (S : Sd p l e R s m args below meth c T h n0 cells slots) (B : Base p s m meth c Z y0 bytes0 maxL0 ret0) (w : (Cond.arrayClass (newarray.typeOf aty)).before a0 Z = true) (hd : decode bytes0 pc = .ok (.newarray aty, 2)) (hz : ¬ z < 0) (hcap : z.toNatClampNeg ≤ cap) (hb : cap * 8 ≤ 536870912) (hc : cells + 1 ≤ R.cells) (hl : slots + cap ≤ R.slots)
    (k : ∀ T' h' b, Sd p l e R s m args below meth c T' h' n0 (cells + 1) (slots + cap) → Ext h h' → b = h.size → n0 ≤ b → Ary Z h' b (newarray.typeOf aty) z.toNatClampNeg (fun _ => defaultValue (newarray.typeOf aty)) → Goes p.tables e below Φ T' (mkF m (pc + 2) Ls (.ref b :: rest))) :
    Goes p.tables e below Φ T (mkF m pc Ls (.int z :: rest)) := by
  have hle := S.le
  obtain ⟨locs, X, eT, N, hn⟩ := S
  obtain ⟨T', h', k', X', e', E, A, stp⟩ := RoadKit.newP X B.1 B.2.1 w eT (g := mkF m pc Ls (.int z :: rest)) rfl (B.d hd) rfl hz hcap hb hc hl
  exact Goes.go stp (k T' h' h.size ⟨locs, X', e', N, hn⟩ E rfl hle (Ary.new A hz))
theorem Goes.iaload (S : Sd p l e R s m args below meth c T h n0 cells slots) (B : Base p s m meth c Z y0 bytes0 maxL0 ret0) (A : Ary Z h a .int n f) (q0 : ¬ j < 0) (q1 : j.toNatClampNeg < n) (hd : decode bytes0 pc = .ok (.iaload, 1)) (hv : f j.toNatClampNeg = v) (k : Goes p.tables e below Φ T (mkF m (pc + 1) Ls (v :: rest))) : Goes p.tables e below Φ T (mkF m pc Ls (.int j :: .ref a :: rest)) := by
  obtain ⟨locs, X, eT, N, hn⟩ := S
  obtain ⟨cl, A, r1, r2, r3⟩ := A
  exact Goes.go (X.iaload B.1 (j := j) (v := v) (by rw [eT]; exact A.1) (State.isArrayOf_alike B.2.1.alike A.2.1) A.2.2 (by rw [r1]; exact fun z => z.elim q0 (Nat.not_le.mpr q1)) (by rw [r3 _ q1, hv]) (g := mkF m pc Ls (.int j :: .ref a :: rest)) rfl rfl (B.d hd)) k
theorem Goes.laload (S : Sd p l e R s m args below meth c T h n0 cells slots) (B : Base p s m meth c Z y0 bytes0 maxL0 ret0) (A : Ary Z h a .long n f) (q0 : ¬ j < 0) (q1 : j.toNatClampNeg < n) (hd : decode bytes0 pc = .ok (.laload, 1)) (hv : f j.toNatClampNeg = v) (k : Goes p.tables e below Φ T (mkF m (pc + 1) Ls (v :: rest))) : Goes p.tables e below Φ T (mkF m pc Ls (.int j :: .ref a :: rest)) := by
  obtain ⟨locs, X, eT, N, hn⟩ := S
  obtain ⟨cl, A, r1, r2, r3⟩ := A
  exact Goes.go (X.laload B.1 (j := j) (v := v) (by rw [eT]; exact A.1) (State.isArrayOf_alike B.2.1.alike A.2.1) A.2.2 (by rw [r1]; exact fun z => z.elim q0 (Nat.not_le.mpr q1)) (by rw [r3 _ q1, hv]) (g := mkF m pc Ls (.int j :: .ref a :: rest)) rfl rfl (B.d hd)) k
theorem Goes.baload (S : Sd p l e R s m args below meth c T h n0 cells slots) (B : Base p s m meth c Z y0 bytes0 maxL0 ret0) (A : Ary Z h a .byte n f) (q0 : ¬ j < 0) (q1 : j.toNatClampNeg < n) (hd : decode bytes0 pc = .ok (.baload, 1)) (hv : f j.toNatClampNeg = v) (k : Goes p.tables e below Φ T (mkF m (pc + 1) Ls (v :: rest))) : Goes p.tables e below Φ T (mkF m pc Ls (.int j :: .ref a :: rest)) := by
  obtain ⟨locs, X, eT, N, hn⟩ := S
  obtain ⟨cl, A, r1, r2, r3⟩ := A
  exact Goes.go (X.baloadBytes B.1 (j := j) (v := v) (by rw [eT]; exact A.1) (State.isArrayOf_alike B.2.1.alike A.2.1) A.2.2 (by rw [r1]; exact fun z => z.elim q0 (Nat.not_le.mpr q1)) (by rw [r3 _ q1, hv]) (g := mkF m pc Ls (.int j :: .ref a :: rest)) rfl rfl (B.d hd)) k
theorem Goes.zaload (S : Sd p l e R s m args below meth c T h n0 cells slots) (B : Base p s m meth c Z y0 bytes0 maxL0 ret0) (A : Ary Z h a .boolean n f) (q0 : ¬ j < 0) (q1 : j.toNatClampNeg < n) (hd : decode bytes0 pc = .ok (.baload, 1)) (hv : f j.toNatClampNeg = v) (k : Goes p.tables e below Φ T (mkF m (pc + 1) Ls (v :: rest))) : Goes p.tables e below Φ T (mkF m pc Ls (.int j :: .ref a :: rest)) := by
  obtain ⟨locs, X, eT, N, hn⟩ := S
  obtain ⟨cl, A, r1, r2, r3⟩ := A
  exact Goes.go (X.baloadBooleans B.1 (j := j) (v := v) (by rw [eT]; exact A.1) (State.isArrayOf_alike B.2.1.alike A.2.1) A.2.2 (by rw [r1]; exact fun z => z.elim q0 (Nat.not_le.mpr q1)) (by rw [r3 _ q1, hv]) (g := mkF m pc Ls (.int j :: .ref a :: rest)) rfl rfl (B.d hd)) k
theorem Goes.alen (S : Sd p l e R s m args below meth c T h n0 cells slots) (B : Base p s m meth c Z y0 bytes0 maxL0 ret0) (A : Ary Z h a ty n f) {z : Int32} (hz : n.toInt32 = z) (hd : decode bytes0 pc = .ok (.arraylength, 1)) (k : Goes p.tables e below Φ T (mkF m (pc + 1) Ls (.int z :: rest))) : Goes p.tables e below Φ T (mkF m pc Ls (.ref a :: rest)) := by
  obtain ⟨locs, X, eT, N, hn⟩ := S
  obtain ⟨cl, A, r1, r2, r3⟩ := A
  subst r1 hz
  exact Goes.go (X.arraylength B.1 (by rw [eT]; exact A.1) (State.isArrayOf_alike B.2.1.alike A.2.1) (g := mkF m pc Ls (.ref a :: rest)) rfl rfl (B.d hd)) k
theorem Goes.iastore {x : Int32} (S : Sd p l e R s m args below meth c T h n0 cells slots) (B : Base p s m meth c Z y0 bytes0 maxL0 ret0) (A : Ary Z h a .int n f) (q0 : ¬ j < 0) (q1 : j.toNatClampNeg < n) (ga : n0 ≤ a) (hd : decode bytes0 pc = .ok (.iastore, 1))
    (k : ∀ T' h', Sd p l e R s m args below meth c T' h' n0 cells slots → Wr h h' a j.toNatClampNeg (.int x) → Ary Z h' a .int n (aup f j.toNatClampNeg (.int x)) → Goes p.tables e below Φ T' (mkF m (pc + 1) Ls rest)) : Goes p.tables e below Φ T (mkF m pc Ls (.int x :: .int j :: .ref a :: rest)) := by
  obtain ⟨locs, X, eT, N, hn⟩ := S
  have A' := A
  obtain ⟨cl, A, r1, r2, r3⟩ := A
  obtain ⟨T', h', X', e', W, stp⟩ := RoadKit.stI X B.1 B.2.1 eT A (j := j) (by rw [r1]; exact fun z => z.elim q0 (Nat.not_le.mpr q1)) (g := mkF m pc Ls (.int x :: .int j :: .ref a :: rest)) rfl rfl (B.d hd)
  exact Goes.go stp (k T' h' ⟨_, X', e', Fr.snoc X' N ga, hn⟩ W (A'.set W q1))
theorem Goes.lastore {x : Int64} (S : Sd p l e R s m args below meth c T h n0 cells slots) (B : Base p s m meth c Z y0 bytes0 maxL0 ret0) (A : Ary Z h a .long n f) (q0 : ¬ j < 0) (q1 : j.toNatClampNeg < n) (ga : n0 ≤ a) (hd : decode bytes0 pc = .ok (.lastore, 1))
    (k : ∀ T' h', Sd p l e R s m args below meth c T' h' n0 cells slots → Wr h h' a j.toNatClampNeg (.long x) → Ary Z h' a .long n (aup f j.toNatClampNeg (.long x)) → Goes p.tables e below Φ T' (mkF m (pc + 1) Ls rest)) : Goes p.tables e below Φ T (mkF m pc Ls (.long x :: .int j :: .ref a :: rest)) := by
  obtain ⟨locs, X, eT, N, hn⟩ := S
  have A' := A
  obtain ⟨cl, A, r1, r2, r3⟩ := A
  obtain ⟨T', h', X', e', W, stp⟩ := RoadKit.stJ X B.1 B.2.1 eT A (j := j) (by rw [r1]; exact fun z => z.elim q0 (Nat.not_le.mpr q1)) (g := mkF m pc Ls (.long x :: .int j :: .ref a :: rest)) rfl rfl (B.d hd)
  exact Goes.go stp (k T' h' ⟨_, X', e', Fr.snoc X' N ga, hn⟩ W (A'.set W q1))
theorem Goes.bastore {x : Int32} (S : Sd p l e R s m args below meth c T h n0 cells slots) (B : Base p s m meth c Z y0 bytes0 maxL0 ret0) (A : Ary Z h a .byte n f) (q0 : ¬ j < 0) (q1 : j.toNatClampNeg < n) (ga : n0 ≤ a) (hd : decode bytes0 pc = .ok (.bastore, 1))
    (k : ∀ T' h', Sd p l e R s m args below meth c T' h' n0 cells slots → Wr h h' a j.toNatClampNeg (.int (nar .byte x)) → Ary Z h' a .byte n (aup f j.toNatClampNeg (.int (nar .byte x))) → Goes p.tables e below Φ T' (mkF m (pc + 1) Ls rest)) : Goes p.tables e below Φ T (mkF m pc Ls (.int x :: .int j :: .ref a :: rest)) := by
  obtain ⟨locs, X, eT, N, hn⟩ := S
  have A' := A
  obtain ⟨cl, A, r1, r2, r3⟩ := A
  obtain ⟨T', h', X', e', W, stp⟩ := RoadKit.stB X B.1 B.2.1 eT A (j := j) (by rw [r1]; exact fun z => z.elim q0 (Nat.not_le.mpr q1)) (g := mkF m pc Ls (.int x :: .int j :: .ref a :: rest)) rfl rfl (B.d hd)
  exact Goes.go stp (k T' h' ⟨_, X', e', Fr.snoc X' N ga, hn⟩ W (A'.set W q1))
theorem Goes.zastore {x : Int32} (S : Sd p l e R s m args below meth c T h n0 cells slots) (B : Base p s m meth c Z y0 bytes0 maxL0 ret0) (A : Ary Z h a .boolean n f) (q0 : ¬ j < 0) (q1 : j.toNatClampNeg < n) (ga : n0 ≤ a) (hd : decode bytes0 pc = .ok (.bastore, 1))
    (k : ∀ T' h', Sd p l e R s m args below meth c T' h' n0 cells slots → Wr h h' a j.toNatClampNeg (.int (nar .boolean x)) → Ary Z h' a .boolean n (aup f j.toNatClampNeg (.int (nar .boolean x))) → Goes p.tables e below Φ T' (mkF m (pc + 1) Ls rest)) : Goes p.tables e below Φ T (mkF m pc Ls (.int x :: .int j :: .ref a :: rest)) := by
  obtain ⟨locs, X, eT, N, hn⟩ := S
  have A' := A
  obtain ⟨cl, A, r1, r2, r3⟩ := A
  obtain ⟨T', h', X', e', W, stp⟩ := RoadKit.stZ X B.1 B.2.1 eT A (j := j) (by rw [r1]; exact fun z => z.elim q0 (Nat.not_le.mpr q1)) (g := mkF m pc Ls (.int x :: .int j :: .ref a :: rest)) rfl rfl (B.d hd)
  exact Goes.go stp (k T' h' ⟨_, X', e', Fr.snoc X' N ga, hn⟩ W (A'.set W q1))
end Arrays
end Lay
end Jvm.OwnKit
namespace Jvm.Pilot.@@N@@
open Jvm Jvm.ClassFile Sem Op Lib Jvm.Free Jvm.Stand Jvm.LawKit Jvm.RoadKit Jvm.OwnKit Bundle Jvm.Pilot.@@N@@.Jvm.D
theorem w0 {Z : State} {a0 : Array Value} (hw : ∀ d ∈ tables_1, d.before a0 Z = true) : ((Jvm.Cond.methodLink "com/example/holdfast/holdfast/InstanceRunStartsPinLaw" (7 : Nat) ({ cls := "java/lang/Math", name := "max", desc := "(II)I" } : Jvm.MethodName)) : Jvm.Cond).before a0 Z = true := hw _ (List.mem_of_getElem? (i := 0) rfl)
theorem w1 {Z : State} {a0 : Array Value} (hw : ∀ d ∈ tables_1, d.before a0 Z = true) : ((Jvm.Cond.static ({ cls := "java/lang/Math", name := "max", desc := "(II)I" } : Jvm.MethodName)) : Jvm.Cond).before a0 Z = true := hw _ (List.mem_of_getElem? (i := 1) rfl)
theorem w2 {Z : State} {a0 : Array Value} (hw : ∀ d ∈ tables_1, d.before a0 Z = true) : ((Jvm.Cond.initialized "java/lang/Math") : Jvm.Cond).before a0 Z = true := hw _ (List.mem_of_getElem? (i := 2) rfl)
theorem w3 {Z : State} {a0 : Array Value} (hw : ∀ d ∈ tables_1, d.before a0 Z = true) : ((Jvm.Cond.code ({ cls := "java/lang/Math", name := "max", desc := "(II)I" } : Jvm.MethodName) jdk_29_method_65_code (2 : Nat) (Option.some Jvm.ClassFile.FieldType.int)) : Jvm.Cond).before a0 Z = true := hw _ (List.mem_of_getElem? (i := 3) rfl)
theorem w4 {Z : State} {a0 : Array Value} (hw : ∀ d ∈ tables_1, d.before a0 Z = true) : ((Jvm.Cond.constant "com/example/holdfast/holdfast/InstanceRunStartsPinLaw" (13 : Nat) (2147483647 : Int32)) : Jvm.Cond).before a0 Z = true := hw _ (List.mem_of_getElem? (i := 4) rfl)
theorem w5 {Z : State} {a0 : Array Value} (hw : ∀ d ∈ tables_1, d.before a0 Z = true) : ((Jvm.Cond.arrayClass Jvm.ClassFile.FieldType.int) : Jvm.Cond).before a0 Z = true := hw _ (List.mem_of_getElem? (i := 5) rfl)
theorem w6 {Z : State} {a0 : Array Value} (hw : ∀ d ∈ tables_1, d.before a0 Z = true) : ((Jvm.Cond.methodLink "com/example/holdfast/holdfast/InstanceRunStartsPinLaw" (14 : Nat) ({ cls := "com/example/holdfast/holdfast/Instance", name := "runStarts", desc := "([II)[I" } : Jvm.MethodName)) : Jvm.Cond).before a0 Z = true := hw _ (List.mem_of_getElem? (i := 6) rfl)
theorem w7 {Z : State} {a0 : Array Value} (hw : ∀ d ∈ tables_1, d.before a0 Z = true) : ((Jvm.Cond.static ({ cls := "com/example/holdfast/holdfast/Instance", name := "runStarts", desc := "([II)[I" } : Jvm.MethodName)) : Jvm.Cond).before a0 Z = true := hw _ (List.mem_of_getElem? (i := 7) rfl)
theorem w8 {Z : State} {a0 : Array Value} (hw : ∀ d ∈ tables_1, d.before a0 Z = true) : ((Jvm.Cond.initialized "com/example/holdfast/holdfast/Instance") : Jvm.Cond).before a0 Z = true := hw _ (List.mem_of_getElem? (i := 8) rfl)
theorem w9 {Z : State} {a0 : Array Value} (hw : ∀ d ∈ tables_1, d.before a0 Z = true) : ((Jvm.Cond.code ({ cls := "com/example/holdfast/holdfast/Instance", name := "runStarts", desc := "([II)[I" } : Jvm.MethodName) prog_8_method_42_code (7 : Nat) (Option.some (Jvm.ClassFile.FieldType.array Jvm.ClassFile.FieldType.int))) : Jvm.Cond).before a0 Z = true := hw _ (List.mem_of_getElem? (i := 9) rfl)
theorem w10 {Z : State} {a0 : Array Value} (hw : ∀ d ∈ tables_1, d.before a0 Z = true) : ((Jvm.Cond.methodLink "com/example/holdfast/holdfast/InstanceRunStartsPinLaw" (20 : Nat) ({ cls := "com/example/holdfast/holdfast/InstanceRunStartsPinLaw", name := "ok", desc := "([IIIIIII)Z" } : Jvm.MethodName)) : Jvm.Cond).before a0 Z = true := hw _ (List.mem_of_getElem? (i := 10) rfl)
theorem w11 {Z : State} {a0 : Array Value} (hw : ∀ d ∈ tables_1, d.before a0 Z = true) : ((Jvm.Cond.static ({ cls := "com/example/holdfast/holdfast/InstanceRunStartsPinLaw", name := "ok", desc := "([IIIIIII)Z" } : Jvm.MethodName)) : Jvm.Cond).before a0 Z = true := hw _ (List.mem_of_getElem? (i := 11) rfl)
theorem w12 {Z : State} {a0 : Array Value} (hw : ∀ d ∈ tables_1, d.before a0 Z = true) : ((Jvm.Cond.initialized "com/example/holdfast/holdfast/InstanceRunStartsPinLaw") : Jvm.Cond).before a0 Z = true := hw _ (List.mem_of_getElem? (i := 12) rfl)
theorem w13 {Z : State} {a0 : Array Value} (hw : ∀ d ∈ tables_1, d.before a0 Z = true) : ((Jvm.Cond.code ({ cls := "com/example/holdfast/holdfast/InstanceRunStartsPinLaw", name := "ok", desc := "([IIIIIII)Z" } : Jvm.MethodName) method_3_code (7 : Nat) (Option.some Jvm.ClassFile.FieldType.boolean)) : Jvm.Cond).before a0 Z = true := hw _ (List.mem_of_getElem? (i := 13) rfl)
theorem w14 {Z : State} {a0 : Array Value} (hw : ∀ d ∈ tables_1, d.before a0 Z = true) : ((Jvm.Cond.methodLink "com/example/holdfast/holdfast/InstanceRunStartsPinLaw" (26 : Nat) ({ cls := "com/example/holdfast/holdfast/InstanceRunStartsPinLaw", name := "below", desc := "(IIIIII)I" } : Jvm.MethodName)) : Jvm.Cond).before a0 Z = true := hw _ (List.mem_of_getElem? (i := 14) rfl)
theorem w15 {Z : State} {a0 : Array Value} (hw : ∀ d ∈ tables_1, d.before a0 Z = true) : ((Jvm.Cond.static ({ cls := "com/example/holdfast/holdfast/InstanceRunStartsPinLaw", name := "below", desc := "(IIIIII)I" } : Jvm.MethodName)) : Jvm.Cond).before a0 Z = true := hw _ (List.mem_of_getElem? (i := 15) rfl)
theorem w16 {Z : State} {a0 : Array Value} (hw : ∀ d ∈ tables_1, d.before a0 Z = true) : ((Jvm.Cond.code ({ cls := "com/example/holdfast/holdfast/InstanceRunStartsPinLaw", name := "below", desc := "(IIIIII)I" } : Jvm.MethodName) method_4_code (7 : Nat) (Option.some Jvm.ClassFile.FieldType.int)) : Jvm.Cond).before a0 Z = true := hw _ (List.mem_of_getElem? (i := 16) rfl)
theorem d_jdk_29_method_65_0 : decode jdk_29_method_65_code 0 = .ok (.iload_n 0, 1) := by decide +kernel
theorem d_jdk_29_method_65_1 : decode jdk_29_method_65_code 1 = .ok (.iload_n 1, 1) := by decide +kernel
theorem d_jdk_29_method_65_2 : decode jdk_29_method_65_code 2 = .ok (.if_icmp .lt 7, 3) := by decide +kernel
theorem d_jdk_29_method_65_9 : decode jdk_29_method_65_code 9 = .ok (.iload_n 1, 1) := by decide +kernel
theorem d_jdk_29_method_65_10 : decode jdk_29_method_65_code 10 = .ok (.ireturn, 1) := by decide +kernel
theorem d_jdk_29_method_65_5 : decode jdk_29_method_65_code 5 = .ok (.iload_n 0, 1) := by decide +kernel
theorem d_jdk_29_method_65_6 : decode jdk_29_method_65_code 6 = .ok (.goto 4, 3) := by decide +kernel
theorem d_method_4_0 : decode method_4_code 0 = .ok (.iconst 0, 1) := by decide +kernel
theorem d_method_4_1 : decode method_4_code 1 = .ok (.istore 6, 2) := by decide +kernel
theorem d_method_4_56 : decode method_4_code 56 = .ok (.iload 6, 2) := by decide +kernel
theorem d_method_4_58 : decode method_4_code 58 = .ok (.ireturn, 1) := by decide +kernel
theorem d_method_4_42 : decode method_4_code 42 = .ok (.iload_n 1, 1) := by decide +kernel
theorem d_method_4_43 : decode method_4_code 43 = .ok (.iconst 3, 1) := by decide +kernel
theorem d_method_4_44 : decode method_4_code 44 = .ok (.if_icmp .le 12, 3) := by decide +kernel
theorem d_method_4_47 : decode method_4_code 47 = .ok (.iload 5, 2) := by decide +kernel
theorem d_method_4_49 : decode method_4_code 49 = .ok (.iload_n 0, 1) := by decide +kernel
theorem d_method_4_50 : decode method_4_code 50 = .ok (.if_icmp .ge 6, 3) := by decide +kernel
theorem d_method_4_53 : decode method_4_code 53 = .ok (.iinc 6 1, 3) := by decide +kernel
theorem d_method_4_28 : decode method_4_code 28 = .ok (.iload_n 1, 1) := by decide +kernel
theorem d_method_4_29 : decode method_4_code 29 = .ok (.iconst 2, 1) := by decide +kernel
theorem d_method_4_30 : decode method_4_code 30 = .ok (.if_icmp .le 12, 3) := by decide +kernel
theorem d_method_4_33 : decode method_4_code 33 = .ok (.iload 4, 2) := by decide +kernel
theorem d_method_4_35 : decode method_4_code 35 = .ok (.iload_n 0, 1) := by decide +kernel
theorem d_method_4_36 : decode method_4_code 36 = .ok (.if_icmp .ge 6, 3) := by decide +kernel
theorem d_method_4_39 : decode method_4_code 39 = .ok (.iinc 6 1, 3) := by decide +kernel
theorem d_method_4_15 : decode method_4_code 15 = .ok (.iload_n 1, 1) := by decide +kernel
theorem d_method_4_16 : decode method_4_code 16 = .ok (.iconst 1, 1) := by decide +kernel
theorem d_method_4_17 : decode method_4_code 17 = .ok (.if_icmp .le 11, 3) := by decide +kernel
theorem d_method_4_20 : decode method_4_code 20 = .ok (.iload_n 3, 1) := by decide +kernel
theorem d_method_4_21 : decode method_4_code 21 = .ok (.iload_n 0, 1) := by decide +kernel
theorem d_method_4_22 : decode method_4_code 22 = .ok (.if_icmp .ge 6, 3) := by decide +kernel
theorem d_method_4_25 : decode method_4_code 25 = .ok (.iinc 6 1, 3) := by decide +kernel
theorem d_method_4_3 : decode method_4_code 3 = .ok (.iload_n 1, 1) := by decide +kernel
theorem d_method_4_4 : decode method_4_code 4 = .ok (.ifCond .le 11, 3) := by decide +kernel
theorem d_method_4_7 : decode method_4_code 7 = .ok (.iload_n 2, 1) := by decide +kernel
theorem d_method_4_8 : decode method_4_code 8 = .ok (.iload_n 0, 1) := by decide +kernel
theorem d_method_4_9 : decode method_4_code 9 = .ok (.if_icmp .ge 6, 3) := by decide +kernel
theorem d_method_4_12 : decode method_4_code 12 = .ok (.iinc 6 1, 3) := by decide +kernel
theorem d_method_3_0 : decode method_3_code 0 = .ok (.iload_n 1, 1) := by decide +kernel
theorem d_method_3_1 : decode method_3_code 1 = .ok (.aload_n 0, 1) := by decide +kernel
theorem d_method_3_2 : decode method_3_code 2 = .ok (.arraylength, 1) := by decide +kernel
theorem d_method_3_3 : decode method_3_code 3 = .ok (.if_icmp .lt 5, 3) := by decide +kernel
theorem d_method_3_8 : decode method_3_code 8 = .ok (.aload_n 0, 1) := by decide +kernel
theorem d_method_3_9 : decode method_3_code 9 = .ok (.iload_n 1, 1) := by decide +kernel
theorem d_method_3_10 : decode method_3_code 10 = .ok (.iaload, 1) := by decide +kernel
theorem d_method_3_11 : decode method_3_code 11 = .ok (.iload_n 1, 1) := by decide +kernel
theorem d_method_3_12 : decode method_3_code 12 = .ok (.iload_n 2, 1) := by decide +kernel
theorem d_method_3_13 : decode method_3_code 13 = .ok (.iload_n 3, 1) := by decide +kernel
theorem d_method_3_14 : decode method_3_code 14 = .ok (.iload 4, 2) := by decide +kernel
theorem d_method_3_16 : decode method_3_code 16 = .ok (.iload 5, 2) := by decide +kernel
theorem d_method_3_18 : decode method_3_code 18 = .ok (.iload 6, 2) := by decide +kernel
theorem d_method_3_20 : decode method_3_code 20 = .ok (.invokestatic 26, 3) := by decide +kernel
theorem d_method_3_23 : decode method_3_code 23 = .ok (.if_icmp .ne 7, 3) := by decide +kernel
theorem d_method_3_26 : decode method_3_code 26 = .ok (.iconst 1, 1) := by decide +kernel
theorem d_method_3_27 : decode method_3_code 27 = .ok (.goto 4, 3) := by decide +kernel
theorem d_method_3_30 : decode method_3_code 30 = .ok (.iconst 0, 1) := by decide +kernel
theorem d_method_3_31 : decode method_3_code 31 = .ok (.ireturn, 1) := by decide +kernel
theorem d_method_3_6 : decode method_3_code 6 = .ok (.iconst 1, 1) := by decide +kernel
theorem d_method_3_7 : decode method_3_code 7 = .ok (.ireturn, 1) := by decide +kernel
theorem d_prog_8_method_42_0 : decode prog_8_method_42_code 0 = .ok (.iload_n 1, 1) := by decide +kernel
theorem d_prog_8_method_42_1 : decode prog_8_method_42_code 1 = .ok (.iconst 1, 1) := by decide +kernel
theorem d_prog_8_method_42_2 : decode prog_8_method_42_code 2 = .ok (.iadd, 1) := by decide +kernel
theorem d_prog_8_method_42_3 : decode prog_8_method_42_code 3 = .ok (.newarray .int, 2) := by decide +kernel
theorem d_prog_8_method_42_5 : decode prog_8_method_42_code 5 = .ok (.astore_n 2, 1) := by decide +kernel
theorem d_prog_8_method_42_6 : decode prog_8_method_42_code 6 = .ok (.aload_n 0, 1) := by decide +kernel
theorem d_prog_8_method_42_7 : decode prog_8_method_42_code 7 = .ok (.astore_n 3, 1) := by decide +kernel
theorem d_prog_8_method_42_8 : decode prog_8_method_42_code 8 = .ok (.aload_n 3, 1) := by decide +kernel
theorem d_prog_8_method_42_9 : decode prog_8_method_42_code 9 = .ok (.arraylength, 1) := by decide +kernel
theorem d_prog_8_method_42_10 : decode prog_8_method_42_code 10 = .ok (.istore 4, 2) := by decide +kernel
theorem d_prog_8_method_42_12 : decode prog_8_method_42_code 12 = .ok (.iconst 0, 1) := by decide +kernel
theorem d_prog_8_method_42_13 : decode prog_8_method_42_code 13 = .ok (.istore 5, 2) := by decide +kernel
theorem d_prog_8_method_42_15 : decode prog_8_method_42_code 15 = .ok (.iload 5, 2) := by decide +kernel
theorem d_prog_8_method_42_17 : decode prog_8_method_42_code 17 = .ok (.iload 4, 2) := by decide +kernel
theorem d_prog_8_method_42_19 : decode prog_8_method_42_code 19 = .ok (.if_icmp .ge 25, 3) := by decide +kernel
theorem d_prog_8_method_42_44 : decode prog_8_method_42_code 44 = .ok (.iconst 0, 1) := by decide +kernel
theorem d_prog_8_method_42_45 : decode prog_8_method_42_code 45 = .ok (.istore_n 3, 1) := by decide +kernel
theorem d_prog_8_method_42_46 : decode prog_8_method_42_code 46 = .ok (.iload_n 3, 1) := by decide +kernel
theorem d_prog_8_method_42_47 : decode prog_8_method_42_code 47 = .ok (.iload_n 1, 1) := by decide +kernel
theorem d_prog_8_method_42_48 : decode prog_8_method_42_code 48 = .ok (.if_icmp .ge 20, 3) := by decide +kernel
theorem d_prog_8_method_42_68 : decode prog_8_method_42_code 68 = .ok (.aload_n 2, 1) := by decide +kernel
theorem d_prog_8_method_42_69 : decode prog_8_method_42_code 69 = .ok (.areturn, 1) := by decide +kernel
theorem d_prog_8_method_42_51 : decode prog_8_method_42_code 51 = .ok (.aload_n 2, 1) := by decide +kernel
theorem d_prog_8_method_42_52 : decode prog_8_method_42_code 52 = .ok (.iload_n 3, 1) := by decide +kernel
theorem d_prog_8_method_42_53 : decode prog_8_method_42_code 53 = .ok (.iconst 1, 1) := by decide +kernel
theorem d_prog_8_method_42_54 : decode prog_8_method_42_code 54 = .ok (.iadd, 1) := by decide +kernel
theorem d_prog_8_method_42_55 : decode prog_8_method_42_code 55 = .ok (.dup2, 1) := by decide +kernel
theorem d_prog_8_method_42_56 : decode prog_8_method_42_code 56 = .ok (.iaload, 1) := by decide +kernel
theorem d_prog_8_method_42_57 : decode prog_8_method_42_code 57 = .ok (.aload_n 2, 1) := by decide +kernel
theorem d_prog_8_method_42_58 : decode prog_8_method_42_code 58 = .ok (.iload_n 3, 1) := by decide +kernel
theorem d_prog_8_method_42_59 : decode prog_8_method_42_code 59 = .ok (.iaload, 1) := by decide +kernel
theorem d_prog_8_method_42_60 : decode prog_8_method_42_code 60 = .ok (.iadd, 1) := by decide +kernel
theorem d_prog_8_method_42_61 : decode prog_8_method_42_code 61 = .ok (.iastore, 1) := by decide +kernel
theorem d_prog_8_method_42_62 : decode prog_8_method_42_code 62 = .ok (.iinc 3 1, 3) := by decide +kernel
theorem d_prog_8_method_42_65 : decode prog_8_method_42_code 65 = .ok (.goto (-19), 3) := by decide +kernel
theorem d_prog_8_method_42_22 : decode prog_8_method_42_code 22 = .ok (.aload_n 3, 1) := by decide +kernel
theorem d_prog_8_method_42_23 : decode prog_8_method_42_code 23 = .ok (.iload 5, 2) := by decide +kernel
theorem d_prog_8_method_42_25 : decode prog_8_method_42_code 25 = .ok (.iaload, 1) := by decide +kernel
theorem d_prog_8_method_42_26 : decode prog_8_method_42_code 26 = .ok (.istore 6, 2) := by decide +kernel
theorem d_prog_8_method_42_28 : decode prog_8_method_42_code 28 = .ok (.aload_n 2, 1) := by decide +kernel
theorem d_prog_8_method_42_29 : decode prog_8_method_42_code 29 = .ok (.iload 6, 2) := by decide +kernel
theorem d_prog_8_method_42_31 : decode prog_8_method_42_code 31 = .ok (.iconst 1, 1) := by decide +kernel
theorem d_prog_8_method_42_32 : decode prog_8_method_42_code 32 = .ok (.iadd, 1) := by decide +kernel
theorem d_prog_8_method_42_33 : decode prog_8_method_42_code 33 = .ok (.dup2, 1) := by decide +kernel
theorem d_prog_8_method_42_34 : decode prog_8_method_42_code 34 = .ok (.iaload, 1) := by decide +kernel
theorem d_prog_8_method_42_35 : decode prog_8_method_42_code 35 = .ok (.iconst 1, 1) := by decide +kernel
theorem d_prog_8_method_42_36 : decode prog_8_method_42_code 36 = .ok (.iadd, 1) := by decide +kernel
theorem d_prog_8_method_42_37 : decode prog_8_method_42_code 37 = .ok (.iastore, 1) := by decide +kernel
theorem d_prog_8_method_42_38 : decode prog_8_method_42_code 38 = .ok (.iinc 5 1, 3) := by decide +kernel
theorem d_prog_8_method_42_41 : decode prog_8_method_42_code 41 = .ok (.goto (-26), 3) := by decide +kernel
theorem pd_0 : parseMethodDescriptor "(IIIIII)I" = some ⟨[.int, .int, .int, .int, .int, .int], some .int⟩ := by decide +kernel
theorem pd_1 : parseMethodDescriptor "(II)I" = some ⟨[.int, .int], some .int⟩ := by decide +kernel
theorem pd_2 : parseMethodDescriptor "([II)[I" = some ⟨[(.array .int), .int], some (.array .int)⟩ := by decide +kernel
theorem pd_3 : parseMethodDescriptor "([IIIIIII)Z" = some ⟨[(.array .int), .int, .int, .int, .int, .int, .int], some .boolean⟩ := by decide +kernel
theorem pn_0 : plainName "com/example/holdfast/holdfast/InstanceRunStartsPinLaw" = true := by first | (simp [plainName, overriddenIn]; done) | decide +kernel
theorem pn_1 : plainName "com/example/holdfast/holdfast/Instance" = true := by first | (simp [plainName, overriddenIn]; done) | decide +kernel

def own_max (a b : Int32) : Int32 := if a < b then b else a
def own_below (k c a0 a1 a2 a3 : Int32) : Int32 := (0 : Int32) + bi ((0 : Int32) < c ∧ a0 < k) + bi ((1 : Int32) < c ∧ a1 < k) + bi ((2 : Int32) < c ∧ a2 < k) + bi ((3 : Int32) < c ∧ a3 < k)
def own_l1 (g : Nat → Int32) : Nat → Nat → Int32
  | 0 => fun _ => 0
  | i + 1 => aup (own_l1 g i) (g i + (1 : Int32)).toNatClampNeg ((own_l1 g i (g i + (1 : Int32)).toNatClampNeg) + (1 : Int32))
def own_l2 (f : Nat → Int32) : Nat → Nat → Int32
  | 0 => f
  | j + 1 => aup (own_l2 f j) (j + 1) ((own_l2 f j (j + 1)) + (own_l2 f j j))

theorem own_e0 : (0 : Int32).toInt = 0 := by decide
theorem own_e1 : (1 : Int32).toInt = 1 := by decide
theorem own_rg (p v : Int32) (h : ((p &&& (7 : Int32)) % (5 : Int32)) = v) : 0 ≤ v.toInt ∧ v.toInt ≤ 4 := by
  have h1 := c_mask p 7 3 (by omega) (by decide)
  have h2 := (c_irem (p &&& 7) 5 5 (by decide)).1 (by omega)
  rw [h] at h2
  omega
theorem own_c7a {v : Int32} (h : v = 0) : 0 ≤ (0 : Int32).toInt ∧ (0 : Int32).toInt ≤ 4 ∧ (v = 0 → (0 : Int32) = 0) := ⟨by decide, by decide, fun _ => rfl⟩
theorem own_c7b {p v w : Int32} (h : ((p &&& (7 : Int32)) % (5 : Int32)) = w) (hv : ¬ v = 0) : 0 ≤ w.toInt ∧ w.toInt ≤ 4 ∧ (v = 0 → w = 0) := ⟨(own_rg p w h).1, (own_rg p w h).2, fun q => absurd q hv⟩
theorem own_five {c : Int32} (h0 : 0 ≤ c.toInt) (h1 : c.toInt ≤ 4) : c = 0 ∨ c = 1 ∨ c = 2 ∨ c = 3 ∨ c = 4 := by
  have h2 : c.toInt = 0 ∨ c.toInt = 1 ∨ c.toInt = 2 ∨ c.toInt = 3 ∨ c.toInt = 4 := by omega
  rcases h2 with q | q | q | q | q
  · exact Or.inl (Int32.toInt_inj.mp q)
  · exact Or.inr (Or.inl (Int32.toInt_inj.mp q))
  · exact Or.inr (Or.inr (Or.inl (Int32.toInt_inj.mp q)))
  · exact Or.inr (Or.inr (Or.inr (Or.inl (Int32.toInt_inj.mp q))))
  · exact Or.inr (Or.inr (Or.inr (Or.inr (Int32.toInt_inj.mp q))))
theorem own_mx {v r : Int32} (h : own_max v (1 : Int32) = r) : 1 ≤ r.toInt ∧ (1 ≤ v.toInt → r = v) := by
  subst h
  unfold own_max
  split
  · rename_i q; rw [Int32.lt_iff_toInt_lt, own_e1] at q; rw [own_e1]; exact ⟨by omega, fun z => absurd q (by omega)⟩
  · rename_i q; rw [Int32.lt_iff_toInt_lt, own_e1] at q; exact ⟨by omega, fun _ => rfl⟩
theorem own_mz {v r : Int32} (h : own_max v (1 : Int32) = r) : r ≠ 0 := fun q => by
  have := (own_mx h).1
  rw [q, own_e0] at this
  omega
theorem own_kr {v r w p : Int32} (hrg : 0 ≤ v.toInt ∧ v.toInt ≤ 4) (hz : v = 0 → False) (hm : own_max v (1 : Int32) = r) (hw : ((p &&& (2147483647 : Int32)) % r) = w) : 0 ≤ w.toInt ∧ w.toInt < v.toInt := by
  have h1 : v.toInt ≠ 0 := fun q => hz (Int32.toInt_inj.mp (by rw [own_e0]; exact q))
  have h2 := (own_mx hm).2 (by omega)
  subst h2
  have h3 := c_and p 2147483647 (by decide)
  have h4 := (c_iremV (p &&& 2147483647) r).1 h3.1 (by omega)
  rw [hw] at h4
  omega
theorem own_k0 (v : Int32) : ∀ i, i < 0 → 0 ≤ (((fun _ => 0) : Nat → Int32) i).toInt ∧ (((fun _ => 0) : Nat → Int32) i).toInt < v.toInt := fun i hi => absurd hi (Nat.not_lt_zero i)
theorem own_k1 {v a : Int32} (ha : 0 ≤ a.toInt ∧ a.toInt < v.toInt) : ∀ i, i < 1 → 0 ≤ ((aup (fun _ => 0) 0 a) i).toInt ∧ ((aup (fun _ => 0) 0 a) i).toInt < v.toInt := fun i hi => by
  have : i = 0 := by omega
  subst this; exact ha
theorem own_k2 {v a b : Int32} (ha : 0 ≤ a.toInt ∧ a.toInt < v.toInt) (hb : 0 ≤ b.toInt ∧ b.toInt < v.toInt) : ∀ i, i < 2 → 0 ≤ ((aup (aup (fun _ => 0) 0 a) 1 b) i).toInt ∧ ((aup (aup (fun _ => 0) 0 a) 1 b) i).toInt < v.toInt := fun i hi => by
  have : i = 0 ∨ i = 1 := by omega
  rcases this with rfl | rfl
  · exact ha
  · exact hb
theorem own_k3 {v a b c : Int32} (ha : 0 ≤ a.toInt ∧ a.toInt < v.toInt) (hb : 0 ≤ b.toInt ∧ b.toInt < v.toInt) (hc : 0 ≤ c.toInt ∧ c.toInt < v.toInt) : ∀ i, i < 3 → 0 ≤ ((aup (aup (aup (fun _ => 0) 0 a) 1 b) 2 c) i).toInt ∧ ((aup (aup (aup (fun _ => 0) 0 a) 1 b) 2 c) i).toInt < v.toInt := fun i hi => by
  have : i = 0 ∨ i = 1 ∨ i = 2 := by omega
  rcases this with rfl | rfl | rfl
  · exact ha
  · exact hb
  · exact hc
theorem own_k4 {v a b c d : Int32} (ha : 0 ≤ a.toInt ∧ a.toInt < v.toInt) (hb : 0 ≤ b.toInt ∧ b.toInt < v.toInt) (hc : 0 ≤ c.toInt ∧ c.toInt < v.toInt) (hd : 0 ≤ d.toInt ∧ d.toInt < v.toInt) : ∀ i, i < 4 → 0 ≤ ((aup (aup (aup (aup (fun _ => 0) 0 a) 1 b) 2 c) 3 d) i).toInt ∧ ((aup (aup (aup (aup (fun _ => 0) 0 a) 1 b) 2 c) 3 d) i).toInt < v.toInt := fun i hi => by
  have : i = 0 ∨ i = 1 ∨ i = 2 ∨ i = 3 := by omega
  rcases this with rfl | rfl | rfl | rfl
  · exact ha
  · exact hb
  · exact hc
  · exact hd
theorem own_tn (x : Int32) : x.toNatClampNeg = x.toInt.toNat := rfl
theorem own_np {v : Int32} (h : 0 ≤ v.toInt ∧ v.toInt ≤ 4) : ¬ (v + (1 : Int32)) < 0 ∧ (v + (1 : Int32)).toNatClampNeg ≤ 5 ∧ (v + (1 : Int32)).toInt = v.toInt + 1 := by
  have h1 := c_iadd v 1
  have h2 := rng32 (v + 1)
  rw [own_tn, Int32.lt_iff_toInt_lt, own_e0]
  rw [own_e1] at h1
  omega
theorem own_hN {v : Int32} (h : 0 ≤ v.toInt ∧ v.toInt ≤ 4) (k : Int32) : k < (v + (1 : Int32)).toNatClampNeg.toInt32 → k.toNatClampNeg < (v + (1 : Int32)).toNatClampNeg := fun q => by
  have h1 := own_np h
  rw [(back32 h1.1).1, Int32.lt_iff_toInt_lt] at q
  rw [own_tn, own_tn]
  omega
section
variable {cnt k : Nat} {i5 j3 p1 : Int32} {f f2 g F : Nat → Int32}
theorem own_c4 (h : cnt ≤ 4) : cnt.toInt32.toInt = cnt := len_toInt (by omega)
theorem own_z1 (hi : i5.toInt = ((cnt - 0 : Nat) : Int)) (hc : cnt ≤ 4) : ¬ i5 < cnt.toInt32 := by
  rw [Int32.lt_iff_toInt_lt, own_c4 hc]; omega
theorem own_s1 (hi : i5.toInt = ((cnt - (k + 1) : Nat) : Int)) (hk : k + 1 ≤ cnt) (hc : cnt ≤ 4) : i5 < cnt.toInt32 := by
  rw [Int32.lt_iff_toInt_lt, own_c4 hc]; omega
theorem own_i (hi : i5.toInt = ((cnt - (k + 1) : Nat) : Int)) (hk : k + 1 ≤ cnt) (hc : cnt ≤ 4) : ¬ i5 < 0 ∧ i5.toNatClampNeg < cnt ∧ i5.toNatClampNeg = cnt - (k + 1) := by
  rw [own_tn, Int32.lt_iff_toInt_lt, own_e0]; omega
theorem own_inc (hi : i5.toInt = ((cnt - (k + 1) : Nat) : Int)) (hk : k + 1 ≤ cnt) (hc : cnt ≤ 4) : (i5 + (1 : Int32)).toInt = ((cnt - k : Nat) : Int) := by
  have h1 := c_iadd i5 1
  have h2 := rng32 (i5 + 1)
  rw [own_e1] at h1
  omega
theorem own_l1s (hf : f = own_l1 g (cnt - (k + 1))) (hk : k + 1 ≤ cnt) : aup f ((g (cnt - (k + 1))) + (1 : Int32)).toNatClampNeg ((f ((g (cnt - (k + 1))) + (1 : Int32)).toNatClampNeg) + (1 : Int32)) = own_l1 g (cnt - k) := by
  have e : cnt - k = (cnt - (k + 1)) + 1 := by omega
  rw [e, hf]; rfl
theorem own_k {t : Nat} (hb : 0 ≤ (g t).toInt ∧ (g t).toInt < p1.toInt) (hr : 0 ≤ p1.toInt ∧ p1.toInt ≤ 4) : ¬ ((g t) + (1 : Int32)) < 0 ∧ ((g t) + (1 : Int32)).toNatClampNeg < (p1 + (1 : Int32)).toNatClampNeg := by
  have h1 := c_iadd (g t) 1
  have h2 := rng32 (g t + 1)
  have h3 := (own_np hr).2.2
  rw [own_e1] at h1
  rw [own_tn, own_tn, Int32.lt_iff_toInt_lt, own_e0]
  omega
theorem own_j (hj : j3.toInt = ((p1.toInt.toNat - (k + 1) : Nat) : Int)) (hk : k + 1 ≤ p1.toInt.toNat) (hr : 0 ≤ p1.toInt ∧ p1.toInt ≤ 4) : ¬ (j3 + (1 : Int32)) < 0 ∧ (j3 + (1 : Int32)).toNatClampNeg < (p1 + (1 : Int32)).toNatClampNeg ∧ ¬ j3 < 0 ∧ j3.toNatClampNeg < (p1 + (1 : Int32)).toNatClampNeg := by
  have h1 := c_iadd j3 1
  have h2 := rng32 (j3 + 1)
  have h3 := (own_np hr).2.2
  rw [own_e1] at h1
  rw [own_tn, own_tn, own_tn, Int32.lt_iff_toInt_lt, Int32.lt_iff_toInt_lt, own_e0]
  omega
theorem own_z2 (hj : j3.toInt = ((p1.toInt.toNat - 0 : Nat) : Int)) (hr : 0 ≤ p1.toInt ∧ p1.toInt ≤ 4) : ¬ j3 < p1 := by
  rw [Int32.lt_iff_toInt_lt]; omega
theorem own_s2 (hj : j3.toInt = ((p1.toInt.toNat - (k + 1) : Nat) : Int)) (hk : k + 1 ≤ p1.toInt.toNat) (hr : 0 ≤ p1.toInt ∧ p1.toInt ≤ 4) : j3 < p1 := by
  rw [Int32.lt_iff_toInt_lt]; omega
theorem own_l2s (hf : f2 = own_l2 F (p1.toInt.toNat - (k + 1))) (hj : j3.toInt = ((p1.toInt.toNat - (k + 1) : Nat) : Int)) (hk : k + 1 ≤ p1.toInt.toNat) (h4 : p1.toInt.toNat ≤ 4) : aup f2 (j3 + (1 : Int32)).toNatClampNeg ((f2 (j3 + (1 : Int32)).toNatClampNeg) + (f2 j3.toNatClampNeg)) = own_l2 F (p1.toInt.toNat - k) := by
  have e : p1.toInt.toNat - k = (p1.toInt.toNat - (k + 1)) + 1 := by omega
  have e1 : j3.toNatClampNeg = p1.toInt.toNat - (k + 1) := by rw [own_tn]; omega
  have e2 : (j3 + (1 : Int32)).toNatClampNeg = p1.toInt.toNat - (k + 1) + 1 := by rw [own_tn, own_inc hj hk h4]; omega
  rw [e, e1, e2, hf]; rfl
end
def own_ps (f : Nat → Int32) : Nat → Int32
  | 0 => f 0
  | j + 1 => own_ps f j + f (j + 1)
theorem own_l2v (f : Nat → Int32) : ∀ R j, (j ≤ R → own_l2 f R j = own_ps f j) ∧ (R < j → own_l2 f R j = f j)
  | 0, j => ⟨fun h => by obtain rfl : j = 0 := (by omega); rfl, fun _ => rfl⟩
  | R + 1, j => by
    have ih := own_l2v f R
    constructor
    · intro h
      simp only [own_l2, aup]
      by_cases q : j = R + 1
      · rw [if_pos q]; subst q
        rw [(ih (R + 1)).2 (by omega), (ih R).1 (by omega)]
        show _ = own_ps f R + f (R + 1)
        rw [Int32.add_comm]
      · rw [if_neg q]; exact (ih j).1 (by omega)
    · intro h
      simp only [own_l2, aup]
      rw [if_neg (by omega)]; exact (ih j).2 (by omega)
theorem own_psu (f : Nat → Int32) (i : Nat) : ∀ j, own_ps (aup f i (f i + 1)) j = own_ps f j + bi (i ≤ j)
  | 0 => by
    simp only [own_ps, aup]
    by_cases q : 0 = i
    · subst q; simp [bi]
    · rw [if_neg q, bi_neg (by omega)]; simp
  | j + 1 => by
    simp only [own_ps]
    rw [own_psu f i j]
    simp only [aup]
    by_cases q : j + 1 = i
    · subst q
      rw [if_pos rfl, bi_neg (by omega), bi_pos (Nat.le_refl _)]
      simp [Int32.add_assoc]
    · rw [if_neg q]
      by_cases z : i ≤ j
      · rw [bi_pos z, bi_pos (by omega)]
        rw [Int32.add_assoc, Int32.add_assoc, Int32.add_comm 1]
      · rw [bi_neg z, bi_neg (by omega)]; simp
def own_cb (g : Nat → Int32) (k : Int32) : Nat → Int32
  | 0 => 0
  | n + 1 => own_cb g k n + bi (g n < k)
theorem own_ps0 : ∀ j, own_ps (fun _ => 0) j = 0
  | 0 => rfl
  | j + 1 => by simp [own_ps, own_ps0 j]
theorem own_fin {n : Nat} {v : Int32} {g f3 : Nat → Int32} (hrg : 0 ≤ v.toInt ∧ v.toInt ≤ 4) (hkk : ∀ i, i < n → 0 ≤ (g i).toInt ∧ (g i).toInt < v.toInt) (hf : f3 = own_l2 (own_l1 g n) v.toInt.toNat) (k : Int32) (hk : 0 ≤ k.toInt) (q : k < (v + (1 : Int32)).toNatClampNeg.toInt32) : f3 k.toNatClampNeg = own_cb g k n := by
  have h1 := own_np hrg
  rw [(back32 h1.1).1, Int32.lt_iff_toInt_lt] at q
  rw [hf, (own_l2v _ _ _).1 (by rw [own_tn]; omega)]
  clear hf
  induction n with
  | zero => simp only [own_l1, own_cb]; exact own_ps0 _
  | succ n ih =>
    simp only [own_l1, own_cb]
    rw [own_psu, ih fun i hi => hkk i (by omega)]
    congr 1
    refine bi_congr ?_
    have hg := hkk n (by omega)
    have h2 := c_iadd (g n) 1
    have h3 := rng32 (g n + 1)
    rw [own_e1] at h2
    rw [own_tn, own_tn, Int32.lt_iff_toInt_lt]
    omega
theorem own_bel0 (k a b c d : Int32) : own_cb (fun _ => 0) k 0 = own_below k 0 a b c d := by simp +decide [own_cb, own_below, bi]
theorem own_bel1 (k a b c d : Int32) : own_cb (aup (fun _ => 0) 0 a) k 1 = own_below k 1 a b c d := by simp +decide [own_cb, own_below, bi, aup]
theorem own_bel2 (k a b c d : Int32) : own_cb (aup (aup (fun _ => 0) 0 a) 1 b) k 2 = own_below k 2 a b c d := by simp +decide [own_cb, own_below, bi, aup]
theorem own_bel3 (k a b c d : Int32) : own_cb (aup (aup (aup (fun _ => 0) 0 a) 1 b) 2 c) k 3 = own_below k 3 a b c d := by simp +decide [own_cb, own_below, bi, aup]
theorem own_bel4 (k a b c d : Int32) : own_cb (aup (aup (aup (aup (fun _ => 0) 0 a) 1 b) 2 c) 3 d) k 4 = own_below k 4 a b c d := by simp +decide [own_cb, own_below, bi, aup]

theorem ef_rm_max (m : MethodId) (p0 : Int32) (p1 : Int32) : entryFrame m #[(.int p0), (.int p1)] 2 = mkF m 0 #[.val (.int p0), .val (.int p1)] [] := by first | (simp [entryFrame, mkF, argsToLocals, Value.category]; done) | rfl
def Q_rm_max (Z : State) (p0 : Int32) (p1 : Int32) (h0 : Heap) (n0 : Nat) (v : Option Value) (h : Heap) : Prop := v = some (.int (own_max p0 p1)) ∧ h = h0
set_option maxRecDepth 65536 in
set_option maxHeartbeats 40000000 in
theorem rm_max (l : Launch) (Z : State) (aw : Array Value) (hw : ∀ d ∈ tables_1, d.before aw Z = true) (p0 : Int32) (p1 : Int32) (h0 : Heap) (n0 : Nat) :
    Con l Z (⟨"java/lang/Math", "max", "(II)I"⟩ : MethodName) jdk_29_method_65_code 2 (some .int) ({ frames := 0, cells := 0, slots := 0, locals := 0 } : Room) #[(.int p0), (.int p1)] h0 n0 (Q_rm_max Z p0 p1 h0 n0) := by
  refine Con.body (Jvm.Free.JP.mathPlain rfl (by decide +kernel)) ?_
  intro pr_ en_ st_ me_ below meth co_ T B S
  refine Goes.cast (ef_rm_max me_ p0 p1) ?_
  refine Goes.go (fun _ => XS.iloadN S.here B.x rfl (B.d d_jdk_29_method_65_0) rfl) ?_
  show Goes _ _ _ _ T (mkF me_ 1 #[.val (.int p0), .val (.int p1)] [(.int p0)])
  refine Goes.go (fun _ => XS.iloadN S.here B.x rfl (B.d d_jdk_29_method_65_1) rfl) ?_
  show Goes _ _ _ _ T (mkF me_ 2 #[.val (.int p0), .val (.int p1)] [(.int p1), (.int p0)])
  by_cases hc2 : p0 < p1
  · skip
    refine Goes.go (fun _ => XS.icmpYes S.here B.x rfl (pc0 := 2) (pc' := 9) rfl (B.d d_jdk_29_method_65_2) rfl (tlt hc2).1 (by decide) (by decide)) ?_
    show Goes _ _ _ _ T (mkF me_ 9 #[.val (.int p0), .val (.int p1)] [])
    refine Goes.go (fun _ => XS.iloadN S.here B.x rfl (B.d d_jdk_29_method_65_9) rfl) ?_
    show Goes _ _ _ _ T (mkF me_ 10 #[.val (.int p0), .val (.int p1)] [(.int p1)])
    refine Goes.retI S B d_jdk_29_method_65_10 (by decide) (by decide) ?_
    exact ⟨(by simp [own_max, *]), rfl⟩
  · skip
    refine Goes.go (fun _ => XS.icmpNo S.here B.x rfl (B.d d_jdk_29_method_65_2) rfl (flt hc2).1) ?_
    show Goes _ _ _ _ T (mkF me_ 5 #[.val (.int p0), .val (.int p1)] [])
    refine Goes.go (fun _ => XS.iloadN S.here B.x rfl (B.d d_jdk_29_method_65_5) rfl) ?_
    show Goes _ _ _ _ T (mkF me_ 6 #[.val (.int p0), .val (.int p1)] [(.int p0)])
    refine Goes.go (fun _ => XS.goto S.here B.x rfl (pc0 := 6) (pc' := 10) rfl (B.d d_jdk_29_method_65_6) (by decide) (by decide)) ?_
    show Goes _ _ _ _ T (mkF me_ 10 #[.val (.int p0), .val (.int p1)] [(.int p0)])
    refine Goes.retI S B d_jdk_29_method_65_10 (by decide) (by decide) ?_
    exact ⟨(by simp [own_max, *]), rfl⟩
theorem ef_rm_below (m : MethodId) (p0 : Int32) (p1 : Int32) (p2 : Int32) (p3 : Int32) (p4 : Int32) (p5 : Int32) : entryFrame m #[(.int p0), (.int p1), (.int p2), (.int p3), (.int p4), (.int p5)] 7 = mkF m 0 #[.val (.int p0), .val (.int p1), .val (.int p2), .val (.int p3), .val (.int p4), .val (.int p5), .unset] [] := by first | (simp [entryFrame, mkF, argsToLocals, Value.category]; done) | rfl
def Q_rm_below (Z : State) (p0 : Int32) (p1 : Int32) (p2 : Int32) (p3 : Int32) (p4 : Int32) (p5 : Int32) (h0 : Heap) (n0 : Nat) (v : Option Value) (h : Heap) : Prop := v = some (.int (own_below p0 p1 p2 p3 p4 p5)) ∧ h = h0
set_option maxRecDepth 65536 in
set_option maxHeartbeats 40000000 in
theorem rm_below (l : Launch) (Z : State) (aw : Array Value) (hw : ∀ d ∈ tables_1, d.before aw Z = true) (p0 : Int32) (p1 : Int32) (p2 : Int32) (p3 : Int32) (p4 : Int32) (p5 : Int32) (h0 : Heap) (n0 : Nat) :
    Con l Z (⟨"com/example/holdfast/holdfast/InstanceRunStartsPinLaw", "below", "(IIIIII)I"⟩ : MethodName) method_4_code 7 (some .int) ({ frames := 0, cells := 0, slots := 0, locals := 0 } : Room) #[(.int p0), (.int p1), (.int p2), (.int p3), (.int p4), (.int p5)] h0 n0 (Q_rm_below Z p0 p1 p2 p3 p4 p5 h0 n0) := by
  refine Con.body (plainFor_of_name pn_0) ?_
  intro pr_ en_ st_ me_ below meth co_ T B S
  refine Goes.cast (ef_rm_below me_ p0 p1 p2 p3 p4 p5) ?_
  refine Goes.go (fun _ => XS.iconst S.here B.x rfl (B.d d_method_4_0)) ?_
  show Goes _ _ _ _ T (mkF me_ 1 #[.val (.int p0), .val (.int p1), .val (.int p2), .val (.int p3), .val (.int p4), .val (.int p5), .unset] [(.int (0 : Int32))])
  refine Goes.go (fun _ => XS.istore S.here B.x rfl (B.d d_method_4_1) rfl (l' := #[.val (.int p0), .val (.int p1), .val (.int p2), .val (.int p3), .val (.int p4), .val (.int p5), .val (.int (0 : Int32))]) rfl) ?_
  show Goes _ _ _ _ T (mkF me_ 3 #[.val (.int p0), .val (.int p1), .val (.int p2), .val (.int p3), .val (.int p4), .val (.int p5), .val (.int (0 : Int32))] [])
  have J1 : ∀ (T : State) (t0 : Int32), Sd pr_ l en_ ({ frames := 0, cells := 0, slots := 0, locals := 0 } : Room) st_ me_ #[(.int p0), (.int p1), (.int p2), (.int p3), (.int p4), (.int p5)] below meth co_ T h0 n0 0 0 → t0 = (0 : Int32) + bi ((0 : Int32) < p1 ∧ p2 < p0) → Goes pr_.tables en_ below (Fine st_ n0 (Q_rm_below Z p0 p1 p2 p3 p4 p5 h0 n0) ({ frames := 0, cells := 0, slots := 0, locals := 0 } : Room).cells ({ frames := 0, cells := 0, slots := 0, locals := 0 } : Room).slots) T (mkF me_ 15 #[.val (.int p0), .val (.int p1), .val (.int p2), .val (.int p3), .val (.int p4), .val (.int p5), .val (.int t0)] []) := by
    intro T t0 S ht0
    have J2 : ∀ (T : State) (t1 : Int32), Sd pr_ l en_ ({ frames := 0, cells := 0, slots := 0, locals := 0 } : Room) st_ me_ #[(.int p0), (.int p1), (.int p2), (.int p3), (.int p4), (.int p5)] below meth co_ T h0 n0 0 0 → t1 = t0 + bi ((1 : Int32) < p1 ∧ p3 < p0) → Goes pr_.tables en_ below (Fine st_ n0 (Q_rm_below Z p0 p1 p2 p3 p4 p5 h0 n0) ({ frames := 0, cells := 0, slots := 0, locals := 0 } : Room).cells ({ frames := 0, cells := 0, slots := 0, locals := 0 } : Room).slots) T (mkF me_ 28 #[.val (.int p0), .val (.int p1), .val (.int p2), .val (.int p3), .val (.int p4), .val (.int p5), .val (.int t1)] []) := by
      intro T t1 S ht1
      have J3 : ∀ (T : State) (t2 : Int32), Sd pr_ l en_ ({ frames := 0, cells := 0, slots := 0, locals := 0 } : Room) st_ me_ #[(.int p0), (.int p1), (.int p2), (.int p3), (.int p4), (.int p5)] below meth co_ T h0 n0 0 0 → t2 = t1 + bi ((2 : Int32) < p1 ∧ p4 < p0) → Goes pr_.tables en_ below (Fine st_ n0 (Q_rm_below Z p0 p1 p2 p3 p4 p5 h0 n0) ({ frames := 0, cells := 0, slots := 0, locals := 0 } : Room).cells ({ frames := 0, cells := 0, slots := 0, locals := 0 } : Room).slots) T (mkF me_ 42 #[.val (.int p0), .val (.int p1), .val (.int p2), .val (.int p3), .val (.int p4), .val (.int p5), .val (.int t2)] []) := by
        intro T t2 S ht2
        have J4 : ∀ (T : State) (t3 : Int32), Sd pr_ l en_ ({ frames := 0, cells := 0, slots := 0, locals := 0 } : Room) st_ me_ #[(.int p0), (.int p1), (.int p2), (.int p3), (.int p4), (.int p5)] below meth co_ T h0 n0 0 0 → t3 = t2 + bi ((3 : Int32) < p1 ∧ p5 < p0) → Goes pr_.tables en_ below (Fine st_ n0 (Q_rm_below Z p0 p1 p2 p3 p4 p5 h0 n0) ({ frames := 0, cells := 0, slots := 0, locals := 0 } : Room).cells ({ frames := 0, cells := 0, slots := 0, locals := 0 } : Room).slots) T (mkF me_ 56 #[.val (.int p0), .val (.int p1), .val (.int p2), .val (.int p3), .val (.int p4), .val (.int p5), .val (.int t3)] []) := by
          intro T t3 S ht3
          refine Goes.go (fun _ => XS.iload S.here B.x rfl (B.d d_method_4_56) rfl) ?_
          show Goes _ _ _ _ T (mkF me_ 58 #[.val (.int p0), .val (.int p1), .val (.int p2), .val (.int p3), .val (.int p4), .val (.int p5), .val (.int t3)] [(.int t3)])
          refine Goes.retI S B d_method_4_58 (by decide) (by decide) ?_
          exact ⟨(by simp only [own_below, ht0, ht1, ht2, ht3]), rfl⟩
        refine Goes.go (fun _ => XS.iloadN S.here B.x rfl (B.d d_method_4_42) rfl) ?_
        show Goes _ _ _ _ T (mkF me_ 43 #[.val (.int p0), .val (.int p1), .val (.int p2), .val (.int p3), .val (.int p4), .val (.int p5), .val (.int t2)] [(.int p1)])
        refine Goes.go (fun _ => XS.iconst S.here B.x rfl (B.d d_method_4_43)) ?_
        show Goes _ _ _ _ T (mkF me_ 44 #[.val (.int p0), .val (.int p1), .val (.int p2), .val (.int p3), .val (.int p4), .val (.int p5), .val (.int t2)] [(.int (3 : Int32)), (.int p1)])
        by_cases hc44 : (3 : Int32) < p1
        · skip
          refine Goes.go (fun _ => XS.icmpNo S.here B.x rfl (B.d d_method_4_44) rfl (tlt hc44).2.2.2) ?_
          show Goes _ _ _ _ T (mkF me_ 47 #[.val (.int p0), .val (.int p1), .val (.int p2), .val (.int p3), .val (.int p4), .val (.int p5), .val (.int t2)] [])
          refine Goes.go (fun _ => XS.iload S.here B.x rfl (B.d d_method_4_47) rfl) ?_
          show Goes _ _ _ _ T (mkF me_ 49 #[.val (.int p0), .val (.int p1), .val (.int p2), .val (.int p3), .val (.int p4), .val (.int p5), .val (.int t2)] [(.int p5)])
          refine Goes.go (fun _ => XS.iloadN S.here B.x rfl (B.d d_method_4_49) rfl) ?_
          show Goes _ _ _ _ T (mkF me_ 50 #[.val (.int p0), .val (.int p1), .val (.int p2), .val (.int p3), .val (.int p4), .val (.int p5), .val (.int t2)] [(.int p0), (.int p5)])
          by_cases hc50 : p5 < p0
          · skip
            refine Goes.go (fun _ => XS.icmpNo S.here B.x rfl (B.d d_method_4_50) rfl (tlt hc50).2.1) ?_
            show Goes _ _ _ _ T (mkF me_ 53 #[.val (.int p0), .val (.int p1), .val (.int p2), .val (.int p3), .val (.int p4), .val (.int p5), .val (.int t2)] [])
            refine Goes.go (fun _ => XS.iinc S.here B.x rfl (B.d d_method_4_53) rfl (l' := #[.val (.int p0), .val (.int p1), .val (.int p2), .val (.int p3), .val (.int p4), .val (.int p5), .val (.int (t2 + (1 : Int32)))]) rfl) ?_
            show Goes _ _ _ _ T (mkF me_ 56 #[.val (.int p0), .val (.int p1), .val (.int p2), .val (.int p3), .val (.int p4), .val (.int p5), .val (.int (t2 + (1 : Int32)))] [])
            exact J4 T (t2 + (1 : Int32)) S (by simp [bi, *])
          · skip
            refine Goes.go (fun _ => XS.icmpYes S.here B.x rfl (pc0 := 50) (pc' := 56) rfl (B.d d_method_4_50) rfl (flt hc50).2.1 (by decide) (by decide)) ?_
            show Goes _ _ _ _ T (mkF me_ 56 #[.val (.int p0), .val (.int p1), .val (.int p2), .val (.int p3), .val (.int p4), .val (.int p5), .val (.int t2)] [])
            exact J4 T t2 S (by simp [bi, *])
        · skip
          refine Goes.go (fun _ => XS.icmpYes S.here B.x rfl (pc0 := 44) (pc' := 56) rfl (B.d d_method_4_44) rfl (flt hc44).2.2.2 (by decide) (by decide)) ?_
          show Goes _ _ _ _ T (mkF me_ 56 #[.val (.int p0), .val (.int p1), .val (.int p2), .val (.int p3), .val (.int p4), .val (.int p5), .val (.int t2)] [])
          exact J4 T t2 S (by simp [bi, *])
      refine Goes.go (fun _ => XS.iloadN S.here B.x rfl (B.d d_method_4_28) rfl) ?_
      show Goes _ _ _ _ T (mkF me_ 29 #[.val (.int p0), .val (.int p1), .val (.int p2), .val (.int p3), .val (.int p4), .val (.int p5), .val (.int t1)] [(.int p1)])
      refine Goes.go (fun _ => XS.iconst S.here B.x rfl (B.d d_method_4_29)) ?_
      show Goes _ _ _ _ T (mkF me_ 30 #[.val (.int p0), .val (.int p1), .val (.int p2), .val (.int p3), .val (.int p4), .val (.int p5), .val (.int t1)] [(.int (2 : Int32)), (.int p1)])
      by_cases hc30 : (2 : Int32) < p1
      · skip
        refine Goes.go (fun _ => XS.icmpNo S.here B.x rfl (B.d d_method_4_30) rfl (tlt hc30).2.2.2) ?_
        show Goes _ _ _ _ T (mkF me_ 33 #[.val (.int p0), .val (.int p1), .val (.int p2), .val (.int p3), .val (.int p4), .val (.int p5), .val (.int t1)] [])
        refine Goes.go (fun _ => XS.iload S.here B.x rfl (B.d d_method_4_33) rfl) ?_
        show Goes _ _ _ _ T (mkF me_ 35 #[.val (.int p0), .val (.int p1), .val (.int p2), .val (.int p3), .val (.int p4), .val (.int p5), .val (.int t1)] [(.int p4)])
        refine Goes.go (fun _ => XS.iloadN S.here B.x rfl (B.d d_method_4_35) rfl) ?_
        show Goes _ _ _ _ T (mkF me_ 36 #[.val (.int p0), .val (.int p1), .val (.int p2), .val (.int p3), .val (.int p4), .val (.int p5), .val (.int t1)] [(.int p0), (.int p4)])
        by_cases hc36 : p4 < p0
        · skip
          refine Goes.go (fun _ => XS.icmpNo S.here B.x rfl (B.d d_method_4_36) rfl (tlt hc36).2.1) ?_
          show Goes _ _ _ _ T (mkF me_ 39 #[.val (.int p0), .val (.int p1), .val (.int p2), .val (.int p3), .val (.int p4), .val (.int p5), .val (.int t1)] [])
          refine Goes.go (fun _ => XS.iinc S.here B.x rfl (B.d d_method_4_39) rfl (l' := #[.val (.int p0), .val (.int p1), .val (.int p2), .val (.int p3), .val (.int p4), .val (.int p5), .val (.int (t1 + (1 : Int32)))]) rfl) ?_
          show Goes _ _ _ _ T (mkF me_ 42 #[.val (.int p0), .val (.int p1), .val (.int p2), .val (.int p3), .val (.int p4), .val (.int p5), .val (.int (t1 + (1 : Int32)))] [])
          exact J3 T (t1 + (1 : Int32)) S (by simp [bi, *])
        · skip
          refine Goes.go (fun _ => XS.icmpYes S.here B.x rfl (pc0 := 36) (pc' := 42) rfl (B.d d_method_4_36) rfl (flt hc36).2.1 (by decide) (by decide)) ?_
          show Goes _ _ _ _ T (mkF me_ 42 #[.val (.int p0), .val (.int p1), .val (.int p2), .val (.int p3), .val (.int p4), .val (.int p5), .val (.int t1)] [])
          exact J3 T t1 S (by simp [bi, *])
      · skip
        refine Goes.go (fun _ => XS.icmpYes S.here B.x rfl (pc0 := 30) (pc' := 42) rfl (B.d d_method_4_30) rfl (flt hc30).2.2.2 (by decide) (by decide)) ?_
        show Goes _ _ _ _ T (mkF me_ 42 #[.val (.int p0), .val (.int p1), .val (.int p2), .val (.int p3), .val (.int p4), .val (.int p5), .val (.int t1)] [])
        exact J3 T t1 S (by simp [bi, *])
    refine Goes.go (fun _ => XS.iloadN S.here B.x rfl (B.d d_method_4_15) rfl) ?_
    show Goes _ _ _ _ T (mkF me_ 16 #[.val (.int p0), .val (.int p1), .val (.int p2), .val (.int p3), .val (.int p4), .val (.int p5), .val (.int t0)] [(.int p1)])
    refine Goes.go (fun _ => XS.iconst S.here B.x rfl (B.d d_method_4_16)) ?_
    show Goes _ _ _ _ T (mkF me_ 17 #[.val (.int p0), .val (.int p1), .val (.int p2), .val (.int p3), .val (.int p4), .val (.int p5), .val (.int t0)] [(.int (1 : Int32)), (.int p1)])
    by_cases hc17 : (1 : Int32) < p1
    · skip
      refine Goes.go (fun _ => XS.icmpNo S.here B.x rfl (B.d d_method_4_17) rfl (tlt hc17).2.2.2) ?_
      show Goes _ _ _ _ T (mkF me_ 20 #[.val (.int p0), .val (.int p1), .val (.int p2), .val (.int p3), .val (.int p4), .val (.int p5), .val (.int t0)] [])
      refine Goes.go (fun _ => XS.iloadN S.here B.x rfl (B.d d_method_4_20) rfl) ?_
      show Goes _ _ _ _ T (mkF me_ 21 #[.val (.int p0), .val (.int p1), .val (.int p2), .val (.int p3), .val (.int p4), .val (.int p5), .val (.int t0)] [(.int p3)])
      refine Goes.go (fun _ => XS.iloadN S.here B.x rfl (B.d d_method_4_21) rfl) ?_
      show Goes _ _ _ _ T (mkF me_ 22 #[.val (.int p0), .val (.int p1), .val (.int p2), .val (.int p3), .val (.int p4), .val (.int p5), .val (.int t0)] [(.int p0), (.int p3)])
      by_cases hc22 : p3 < p0
      · skip
        refine Goes.go (fun _ => XS.icmpNo S.here B.x rfl (B.d d_method_4_22) rfl (tlt hc22).2.1) ?_
        show Goes _ _ _ _ T (mkF me_ 25 #[.val (.int p0), .val (.int p1), .val (.int p2), .val (.int p3), .val (.int p4), .val (.int p5), .val (.int t0)] [])
        refine Goes.go (fun _ => XS.iinc S.here B.x rfl (B.d d_method_4_25) rfl (l' := #[.val (.int p0), .val (.int p1), .val (.int p2), .val (.int p3), .val (.int p4), .val (.int p5), .val (.int (t0 + (1 : Int32)))]) rfl) ?_
        show Goes _ _ _ _ T (mkF me_ 28 #[.val (.int p0), .val (.int p1), .val (.int p2), .val (.int p3), .val (.int p4), .val (.int p5), .val (.int (t0 + (1 : Int32)))] [])
        exact J2 T (t0 + (1 : Int32)) S (by simp [bi, *])
      · skip
        refine Goes.go (fun _ => XS.icmpYes S.here B.x rfl (pc0 := 22) (pc' := 28) rfl (B.d d_method_4_22) rfl (flt hc22).2.1 (by decide) (by decide)) ?_
        show Goes _ _ _ _ T (mkF me_ 28 #[.val (.int p0), .val (.int p1), .val (.int p2), .val (.int p3), .val (.int p4), .val (.int p5), .val (.int t0)] [])
        exact J2 T t0 S (by simp [bi, *])
    · skip
      refine Goes.go (fun _ => XS.icmpYes S.here B.x rfl (pc0 := 17) (pc' := 28) rfl (B.d d_method_4_17) rfl (flt hc17).2.2.2 (by decide) (by decide)) ?_
      show Goes _ _ _ _ T (mkF me_ 28 #[.val (.int p0), .val (.int p1), .val (.int p2), .val (.int p3), .val (.int p4), .val (.int p5), .val (.int t0)] [])
      exact J2 T t0 S (by simp [bi, *])
  refine Goes.go (fun _ => XS.iloadN S.here B.x rfl (B.d d_method_4_3) rfl) ?_
  show Goes _ _ _ _ T (mkF me_ 4 #[.val (.int p0), .val (.int p1), .val (.int p2), .val (.int p3), .val (.int p4), .val (.int p5), .val (.int (0 : Int32))] [(.int p1)])
  by_cases hc4 : (0 : Int32) < p1
  · skip
    refine Goes.go (fun _ => XS.ifNo S.here B.x rfl (B.d d_method_4_4) rfl ((if0 _ _).trans (tlt hc4).2.2.2)) ?_
    show Goes _ _ _ _ T (mkF me_ 7 #[.val (.int p0), .val (.int p1), .val (.int p2), .val (.int p3), .val (.int p4), .val (.int p5), .val (.int (0 : Int32))] [])
    refine Goes.go (fun _ => XS.iloadN S.here B.x rfl (B.d d_method_4_7) rfl) ?_
    show Goes _ _ _ _ T (mkF me_ 8 #[.val (.int p0), .val (.int p1), .val (.int p2), .val (.int p3), .val (.int p4), .val (.int p5), .val (.int (0 : Int32))] [(.int p2)])
    refine Goes.go (fun _ => XS.iloadN S.here B.x rfl (B.d d_method_4_8) rfl) ?_
    show Goes _ _ _ _ T (mkF me_ 9 #[.val (.int p0), .val (.int p1), .val (.int p2), .val (.int p3), .val (.int p4), .val (.int p5), .val (.int (0 : Int32))] [(.int p0), (.int p2)])
    by_cases hc9 : p2 < p0
    · skip
      refine Goes.go (fun _ => XS.icmpNo S.here B.x rfl (B.d d_method_4_9) rfl (tlt hc9).2.1) ?_
      show Goes _ _ _ _ T (mkF me_ 12 #[.val (.int p0), .val (.int p1), .val (.int p2), .val (.int p3), .val (.int p4), .val (.int p5), .val (.int (0 : Int32))] [])
      refine Goes.go (fun _ => XS.iinc S.here B.x rfl (B.d d_method_4_12) rfl (l' := #[.val (.int p0), .val (.int p1), .val (.int p2), .val (.int p3), .val (.int p4), .val (.int p5), .val (.int (1 : Int32))]) rfl) ?_
      show Goes _ _ _ _ T (mkF me_ 15 #[.val (.int p0), .val (.int p1), .val (.int p2), .val (.int p3), .val (.int p4), .val (.int p5), .val (.int (1 : Int32))] [])
      exact J1 T (1 : Int32) S (by simp [bi, *])
    · skip
      refine Goes.go (fun _ => XS.icmpYes S.here B.x rfl (pc0 := 9) (pc' := 15) rfl (B.d d_method_4_9) rfl (flt hc9).2.1 (by decide) (by decide)) ?_
      show Goes _ _ _ _ T (mkF me_ 15 #[.val (.int p0), .val (.int p1), .val (.int p2), .val (.int p3), .val (.int p4), .val (.int p5), .val (.int (0 : Int32))] [])
      exact J1 T (0 : Int32) S (by simp [bi, *])
  · skip
    refine Goes.go (fun _ => XS.ifYes S.here B.x rfl (pc0 := 4) (pc' := 15) rfl (B.d d_method_4_4) rfl ((if0 _ _).trans (flt hc4).2.2.2) (by decide) (by decide)) ?_
    show Goes _ _ _ _ T (mkF me_ 15 #[.val (.int p0), .val (.int p1), .val (.int p2), .val (.int p3), .val (.int p4), .val (.int p5), .val (.int (0 : Int32))] [])
    exact J1 T (0 : Int32) S (by simp [bi, *])
theorem ef_rm_ok (m : MethodId) (a0 : Addr) (p1 : Int32) (p2 : Int32) (p3 : Int32) (p4 : Int32) (p5 : Int32) (p6 : Int32) : entryFrame m #[(.ref a0), (.int p1), (.int p2), (.int p3), (.int p4), (.int p5), (.int p6)] 7 = mkF m 0 #[.val (.ref a0), .val (.int p1), .val (.int p2), .val (.int p3), .val (.int p4), .val (.int p5), .val (.int p6)] [] := by first | (simp [entryFrame, mkF, argsToLocals, Value.category]; done) | rfl
def Q_rm_ok (Z : State) (a0 : Addr) (p1 : Int32) (p2 : Int32) (p3 : Int32) (p4 : Int32) (p5 : Int32) (p6 : Int32) (N : Nat) (f : Nat → Int32) (h0 : Heap) (n0 : Nat) (v : Option Value) (h : Heap) : Prop := v = some (.int (bi (p1 < N.toInt32 → f p1.toNatClampNeg = own_below p1 p2 p3 p4 p5 p6))) ∧ h = h0
set_option maxRecDepth 65536 in
set_option maxHeartbeats 40000000 in
theorem rm_ok (l : Launch) (Z : State) (aw : Array Value) (hw : ∀ d ∈ tables_1, d.before aw Z = true) (a0 : Addr) (p1 : Int32) (p2 : Int32) (p3 : Int32) (p4 : Int32) (p5 : Int32) (p6 : Int32) (N : Nat) (f : Nat → Int32) (h0 : Heap) (n0 : Nat) (A_a0 : Ary Z h0 a0 .int N (fun i => (.int (f i)))) (hp : ¬ p1 < 0) (hN : p1 < N.toInt32 → p1.toNatClampNeg < N) :
    Con l Z (⟨"com/example/holdfast/holdfast/InstanceRunStartsPinLaw", "ok", "([IIIIIII)Z"⟩ : MethodName) method_3_code 7 (some .boolean) ({ frames := 1, cells := 0, slots := 0, locals := 19 } : Room) #[(.ref a0), (.int p1), (.int p2), (.int p3), (.int p4), (.int p5), (.int p6)] h0 n0 (Q_rm_ok Z a0 p1 p2 p3 p4 p5 p6 N f h0 n0) := by
  refine Con.body (plainFor_of_name pn_0) ?_
  intro pr_ en_ st_ me_ below meth co_ T B S
  refine Goes.cast (ef_rm_ok me_ a0 p1 p2 p3 p4 p5 p6) ?_
  refine Goes.go (fun _ => XS.iloadN S.here B.x rfl (B.d d_method_3_0) rfl) ?_
  show Goes _ _ _ _ T (mkF me_ 1 #[.val (.ref a0), .val (.int p1), .val (.int p2), .val (.int p3), .val (.int p4), .val (.int p5), .val (.int p6)] [(.int p1)])
  refine Goes.go (fun _ => XS.aloadN S.here B.x rfl (B.d d_method_3_1) rfl rfl) ?_
  show Goes _ _ _ _ T (mkF me_ 2 #[.val (.ref a0), .val (.int p1), .val (.int p2), .val (.int p3), .val (.int p4), .val (.int p5), .val (.int p6)] [(.ref a0), (.int p1)])
  refine Goes.alen S B A_a0 (z := N.toInt32) rfl d_method_3_2 ?_
  show Goes _ _ _ _ T (mkF me_ 3 #[.val (.ref a0), .val (.int p1), .val (.int p2), .val (.int p3), .val (.int p4), .val (.int p5), .val (.int p6)] [(.int N.toInt32), (.int p1)])
  by_cases hc3 : p1 < N.toInt32
  · skip
    refine Goes.go (fun _ => XS.icmpYes S.here B.x rfl (pc0 := 3) (pc' := 8) rfl (B.d d_method_3_3) rfl (tlt hc3).1 (by decide) (by decide)) ?_
    show Goes _ _ _ _ T (mkF me_ 8 #[.val (.ref a0), .val (.int p1), .val (.int p2), .val (.int p3), .val (.int p4), .val (.int p5), .val (.int p6)] [])
    refine Goes.go (fun _ => XS.aloadN S.here B.x rfl (B.d d_method_3_8) rfl rfl) ?_
    show Goes _ _ _ _ T (mkF me_ 9 #[.val (.ref a0), .val (.int p1), .val (.int p2), .val (.int p3), .val (.int p4), .val (.int p5), .val (.int p6)] [(.ref a0)])
    refine Goes.go (fun _ => XS.iloadN S.here B.x rfl (B.d d_method_3_9) rfl) ?_
    show Goes _ _ _ _ T (mkF me_ 10 #[.val (.ref a0), .val (.int p1), .val (.int p2), .val (.int p3), .val (.int p4), .val (.int p5), .val (.int p6)] [(.int p1), (.ref a0)])
    refine Goes.iaload S B A_a0 hp (hN hc3) d_method_3_10 (v := (.int (f p1.toNatClampNeg))) rfl ?_
    show Goes _ _ _ _ T (mkF me_ 11 #[.val (.ref a0), .val (.int p1), .val (.int p2), .val (.int p3), .val (.int p4), .val (.int p5), .val (.int p6)] [(.int (f p1.toNatClampNeg))])
    refine Goes.go (fun _ => XS.iloadN S.here B.x rfl (B.d d_method_3_11) rfl) ?_
    show Goes _ _ _ _ T (mkF me_ 12 #[.val (.ref a0), .val (.int p1), .val (.int p2), .val (.int p3), .val (.int p4), .val (.int p5), .val (.int p6)] [(.int p1), (.int (f p1.toNatClampNeg))])
    refine Goes.go (fun _ => XS.iloadN S.here B.x rfl (B.d d_method_3_12) rfl) ?_
    show Goes _ _ _ _ T (mkF me_ 13 #[.val (.ref a0), .val (.int p1), .val (.int p2), .val (.int p3), .val (.int p4), .val (.int p5), .val (.int p6)] [(.int p2), (.int p1), (.int (f p1.toNatClampNeg))])
    refine Goes.go (fun _ => XS.iloadN S.here B.x rfl (B.d d_method_3_13) rfl) ?_
    show Goes _ _ _ _ T (mkF me_ 14 #[.val (.ref a0), .val (.int p1), .val (.int p2), .val (.int p3), .val (.int p4), .val (.int p5), .val (.int p6)] [(.int p3), (.int p2), (.int p1), (.int (f p1.toNatClampNeg))])
    refine Goes.go (fun _ => XS.iload S.here B.x rfl (B.d d_method_3_14) rfl) ?_
    show Goes _ _ _ _ T (mkF me_ 16 #[.val (.ref a0), .val (.int p1), .val (.int p2), .val (.int p3), .val (.int p4), .val (.int p5), .val (.int p6)] [(.int p4), (.int p3), (.int p2), (.int p1), (.int (f p1.toNatClampNeg))])
    refine Goes.go (fun _ => XS.iload S.here B.x rfl (B.d d_method_3_16) rfl) ?_
    show Goes _ _ _ _ T (mkF me_ 18 #[.val (.ref a0), .val (.int p1), .val (.int p2), .val (.int p3), .val (.int p4), .val (.int p5), .val (.int p6)] [(.int p5), (.int p4), (.int p3), (.int p2), (.int p1), (.int (f p1.toNatClampNeg))])
    refine Goes.go (fun _ => XS.iload S.here B.x rfl (B.d d_method_3_18) rfl) ?_
    show Goes _ _ _ _ T (mkF me_ 20 #[.val (.ref a0), .val (.int p1), .val (.int p2), .val (.int p3), .val (.int p4), .val (.int p5), .val (.int p6)] [(.int p6), (.int p5), (.int p4), (.int p3), (.int p2), (.int p1), (.int (f p1.toNatClampNeg))])
    refine Goes.callS (argsL := [(.int p1), (.int p2), (.int p3), (.int p4), (.int p5), (.int p6)]) (rest := [(.int (f p1.toNatClampNeg))]) (W := 1) S B (rm_below l Z aw hw p1 p2 p3 p4 p5 p6 _ n0) (w14 hw) (w15 hw) (w12 hw) (w16 hw) (by decide) (by decide) (by decide) (by decide) (by decide) rfl (lenOf pd_0 rfl) rfl (Nat.le_of_eq rfl) d_method_3_20 ?_
    intro v T h S hQ
    obtain ⟨rfl, hh⟩ := hQ
    replace hh := hh.symm
    subst hh
    show Goes _ _ _ _ T (mkF me_ 23 #[.val (.ref a0), .val (.int p1), .val (.int p2), .val (.int p3), .val (.int p4), .val (.int p5), .val (.int p6)] [(.int (own_below p1 p2 p3 p4 p5 p6)), (.int (f p1.toNatClampNeg))])
    refine Goes.dia (P := (f p1.toNatClampNeg) = (own_below p1 p2 p3 p4 p5 p6)) (mk := fun z => (mkF me_ 31 #[.val (.ref a0), .val (.int p1), .val (.int p2), .val (.int p3), .val (.int p4), .val (.int p5), .val (.int p6)] [(.int z)])) (fun hc23 kk => ?_) (fun hc23 kk => ?_) ?_
    · skip
      refine Goes.go (fun _ => XS.icmpNo S.here B.x rfl (B.d d_method_3_23) rfl (teq hc23).2) ?_
      show Goes _ _ _ _ T (mkF me_ 26 #[.val (.ref a0), .val (.int p1), .val (.int p2), .val (.int p3), .val (.int p4), .val (.int p5), .val (.int p6)] [])
      refine Goes.go (fun _ => XS.iconst S.here B.x rfl (B.d d_method_3_26)) ?_
      show Goes _ _ _ _ T (mkF me_ 27 #[.val (.ref a0), .val (.int p1), .val (.int p2), .val (.int p3), .val (.int p4), .val (.int p5), .val (.int p6)] [(.int (1 : Int32))])
      refine Goes.go (fun _ => XS.goto S.here B.x rfl (pc0 := 27) (pc' := 31) rfl (B.d d_method_3_27) (by decide) (by decide)) ?_
      show Goes _ _ _ _ T (mkF me_ 31 #[.val (.ref a0), .val (.int p1), .val (.int p2), .val (.int p3), .val (.int p4), .val (.int p5), .val (.int p6)] [(.int (1 : Int32))])
      exact kk
    · skip
      refine Goes.go (fun _ => XS.icmpYes S.here B.x rfl (pc0 := 23) (pc' := 30) rfl (B.d d_method_3_23) rfl (feq hc23).2 (by decide) (by decide)) ?_
      show Goes _ _ _ _ T (mkF me_ 30 #[.val (.ref a0), .val (.int p1), .val (.int p2), .val (.int p3), .val (.int p4), .val (.int p5), .val (.int p6)] [])
      refine Goes.go (fun _ => XS.iconst S.here B.x rfl (B.d d_method_3_30)) ?_
      show Goes _ _ _ _ T (mkF me_ 31 #[.val (.ref a0), .val (.int p1), .val (.int p2), .val (.int p3), .val (.int p4), .val (.int p5), .val (.int p6)] [(.int (0 : Int32))])
      exact kk
    show Goes _ _ _ _ T (mkF me_ 31 #[.val (.ref a0), .val (.int p1), .val (.int p2), .val (.int p3), .val (.int p4), .val (.int p5), .val (.int p6)] [(.int (bi ((f p1.toNatClampNeg) = (own_below p1 p2 p3 p4 p5 p6))))])
    refine Goes.retN S B (by simp) d_method_3_31 (by decide) (by decide) ?_
    exact ⟨(by first | (rw [nar_bi]; exact congrArg (fun z => some (Value.int z)) (bi_congr ⟨fun q _ => q, fun q => q hc3⟩)) | (rw [bi_pos (fun q => absurd q hc3)]; rfl)), rfl⟩
  · skip
    refine Goes.go (fun _ => XS.icmpNo S.here B.x rfl (B.d d_method_3_3) rfl (flt hc3).1) ?_
    show Goes _ _ _ _ T (mkF me_ 6 #[.val (.ref a0), .val (.int p1), .val (.int p2), .val (.int p3), .val (.int p4), .val (.int p5), .val (.int p6)] [])
    refine Goes.go (fun _ => XS.iconst S.here B.x rfl (B.d d_method_3_6)) ?_
    show Goes _ _ _ _ T (mkF me_ 7 #[.val (.ref a0), .val (.int p1), .val (.int p2), .val (.int p3), .val (.int p4), .val (.int p5), .val (.int p6)] [(.int (1 : Int32))])
    refine Goes.retN S B (by simp) d_method_3_7 (by decide) (by decide) ?_
    exact ⟨(by first | (rw [nar_bi]; exact congrArg (fun z => some (Value.int z)) (bi_congr ⟨fun q _ => q, fun q => q hc3⟩)) | (rw [bi_pos (fun q => absurd q hc3)]; rfl)), rfl⟩
theorem ef_rm_rs (m : MethodId) (a0 : Addr) (p1 : Int32) : entryFrame m #[(.ref a0), (.int p1)] 7 = mkF m 0 #[.val (.ref a0), .val (.int p1), .unset, .unset, .unset, .unset, .unset] [] := by first | (simp [entryFrame, mkF, argsToLocals, Value.category]; done) | rfl
def Q_rm_rs (Z : State) (a0 : Addr) (p1 : Int32) (cnt : Nat) (g : Nat → Int32) (h0 : Heap) (n0 : Nat) (v : Option Value) (h : Heap) : Prop := ∃ (r : Addr) (f3 : Nat → Int32), v = some (.ref r) ∧ h0.size ≤ r ∧ Keep h0 h [] ∧ Ary Z h r .int (p1 + (1 : Int32)).toNatClampNeg (fun i => (.int (f3 i))) ∧ (f3 = own_l2 (own_l1 g cnt) p1.toInt.toNat)
set_option maxRecDepth 65536 in
set_option maxHeartbeats 40000000 in
theorem rm_rs (l : Launch) (Z : State) (aw : Array Value) (hw : ∀ d ∈ tables_1, d.before aw Z = true) (a0 : Addr) (p1 : Int32) (cnt : Nat) (g : Nat → Int32) (h0 : Heap) (n0 : Nat) (A_a0 : Ary Z h0 a0 .int cnt (fun i => (.int (g i)))) (hr : 0 ≤ p1.toInt ∧ p1.toInt ≤ 4) (hcnt : cnt ≤ 4) (hkeys : ∀ i, i < cnt → 0 ≤ (g i).toInt ∧ (g i).toInt < p1.toInt) :
    Con l Z (⟨"com/example/holdfast/holdfast/Instance", "runStarts", "([II)[I"⟩ : MethodName) prog_8_method_42_code 7 (some (.array .int)) ({ frames := 0, cells := 1, slots := 5, locals := 0 } : Room) #[(.ref a0), (.int p1)] h0 n0 (Q_rm_rs Z a0 p1 cnt g h0 n0) := by
  refine Con.body (plainFor_of_name pn_1) ?_
  intro pr_ en_ st_ me_ below meth co_ T B S
  refine Goes.cast (ef_rm_rs me_ a0 p1) ?_
  have K : Keep h0 h0 [] := Keep.refl _ _
  refine Goes.go (fun _ => XS.iloadN S.here B.x rfl (B.d d_prog_8_method_42_0) rfl) ?_
  show Goes _ _ _ _ T (mkF me_ 1 #[.val (.ref a0), .val (.int p1), .unset, .unset, .unset, .unset, .unset] [(.int p1)])
  refine Goes.go (fun _ => XS.iconst S.here B.x rfl (B.d d_prog_8_method_42_1)) ?_
  show Goes _ _ _ _ T (mkF me_ 2 #[.val (.ref a0), .val (.int p1), .unset, .unset, .unset, .unset, .unset] [(.int (1 : Int32)), (.int p1)])
  refine Goes.go (fun _ => XS.iadd S.here B.x rfl (B.d d_prog_8_method_42_2) rfl) ?_
  show Goes _ _ _ _ T (mkF me_ 3 #[.val (.ref a0), .val (.int p1), .unset, .unset, .unset, .unset, .unset] [(.int (p1 + (1 : Int32)))])
  refine Goes.newP (aty := .int) (cap := 5) S B (w5 hw) d_prog_8_method_42_3 (own_np hr).1 (own_np hr).2.1 (by decide) (by decide) (by decide) ?_
  intro T h b1 S X zb g_b1 A_b1
  have ne_a0__b1 : a0 ≠ b1 := Nat.ne_of_lt (Nat.lt_of_lt_of_le A_a0.lt (Nat.le_of_eq zb.symm))
  have z_b1 : h0.size ≤ b1 := Nat.le_trans K.1 (Nat.le_of_eq zb.symm)
  replace K := K.ext X
  replace A_a0 := A_a0.ext X
  replace A_b1 : Ary Z h b1 .int (p1 + (1 : Int32)).toNatClampNeg (fun i => (.int ((fun _ => 0) i))) := A_b1
  show Goes _ _ _ _ T (mkF me_ 5 #[.val (.ref a0), .val (.int p1), .unset, .unset, .unset, .unset, .unset] [(.ref b1)])
  refine Goes.go (fun _ => XS.astoreN S.here B.x rfl (B.d d_prog_8_method_42_5) rfl rfl (l' := #[.val (.ref a0), .val (.int p1), .val (.ref b1), .unset, .unset, .unset, .unset]) rfl) ?_
  show Goes _ _ _ _ T (mkF me_ 6 #[.val (.ref a0), .val (.int p1), .val (.ref b1), .unset, .unset, .unset, .unset] [])
  refine Goes.go (fun _ => XS.aloadN S.here B.x rfl (B.d d_prog_8_method_42_6) rfl rfl) ?_
  show Goes _ _ _ _ T (mkF me_ 7 #[.val (.ref a0), .val (.int p1), .val (.ref b1), .unset, .unset, .unset, .unset] [(.ref a0)])
  refine Goes.go (fun _ => XS.astoreN S.here B.x rfl (B.d d_prog_8_method_42_7) rfl rfl (l' := #[.val (.ref a0), .val (.int p1), .val (.ref b1), .val (.ref a0), .unset, .unset, .unset]) rfl) ?_
  show Goes _ _ _ _ T (mkF me_ 8 #[.val (.ref a0), .val (.int p1), .val (.ref b1), .val (.ref a0), .unset, .unset, .unset] [])
  refine Goes.go (fun _ => XS.aloadN S.here B.x rfl (B.d d_prog_8_method_42_8) rfl rfl) ?_
  show Goes _ _ _ _ T (mkF me_ 9 #[.val (.ref a0), .val (.int p1), .val (.ref b1), .val (.ref a0), .unset, .unset, .unset] [(.ref a0)])
  refine Goes.alen S B A_a0 (z := cnt.toInt32) rfl d_prog_8_method_42_9 ?_
  show Goes _ _ _ _ T (mkF me_ 10 #[.val (.ref a0), .val (.int p1), .val (.ref b1), .val (.ref a0), .unset, .unset, .unset] [(.int cnt.toInt32)])
  refine Goes.go (fun _ => XS.istore S.here B.x rfl (B.d d_prog_8_method_42_10) rfl (l' := #[.val (.ref a0), .val (.int p1), .val (.ref b1), .val (.ref a0), .val (.int cnt.toInt32), .unset, .unset]) rfl) ?_
  show Goes _ _ _ _ T (mkF me_ 12 #[.val (.ref a0), .val (.int p1), .val (.ref b1), .val (.ref a0), .val (.int cnt.toInt32), .unset, .unset] [])
  refine Goes.go (fun _ => XS.iconst S.here B.x rfl (B.d d_prog_8_method_42_12)) ?_
  show Goes _ _ _ _ T (mkF me_ 13 #[.val (.ref a0), .val (.int p1), .val (.ref b1), .val (.ref a0), .val (.int cnt.toInt32), .unset, .unset] [(.int (0 : Int32))])
  refine Goes.go (fun _ => XS.istore S.here B.x rfl (B.d d_prog_8_method_42_13) rfl (l' := #[.val (.ref a0), .val (.int p1), .val (.ref b1), .val (.ref a0), .val (.int cnt.toInt32), .val (.int (0 : Int32)), .unset]) rfl) ?_
  show Goes _ _ _ _ T (mkF me_ 15 #[.val (.ref a0), .val (.int p1), .val (.ref b1), .val (.ref a0), .val (.int cnt.toInt32), .val (.int (0 : Int32)), .unset] [])
  have LP2 : ∀ (k : Nat) (T : State) (h : Heap) (i5 : Int32) (s6 : Slot) (f : Nat → Int32), Sd pr_ l en_ ({ frames := 0, cells := 1, slots := 5, locals := 0 } : Room) st_ me_ #[(.ref a0), (.int p1)] below meth co_ T h n0 1 5 → Keep h0 h [] → Ary Z h a0 .int cnt (fun i => (.int (g i))) → Ary Z h b1 .int (p1 + (1 : Int32)).toNatClampNeg (fun i => (.int (f i))) → One s6 → k ≤ cnt → i5.toInt = ((cnt - k : Nat) : Int) → f = own_l1 g (cnt - k) → Goes pr_.tables en_ below (Fine st_ n0 (Q_rm_rs Z a0 p1 cnt g h0 n0) ({ frames := 0, cells := 1, slots := 5, locals := 0 } : Room).cells ({ frames := 0, cells := 1, slots := 5, locals := 0 } : Room).slots) T (mkF me_ 15 #[.val (.ref a0), .val (.int p1), .val (.ref b1), .val (.ref a0), .val (.int cnt.toInt32), .val (.int i5), s6] []) := by
    intro k
    induction k with
    | zero =>
      intro T h i5 s6 f S K A_a0 A_b1 hs6 hk hi hf
      refine Goes.go (fun _ => XS.iload S.here B.x rfl (B.d d_prog_8_method_42_15) rfl) ?_
      show Goes _ _ _ _ T (mkF me_ 17 #[.val (.ref a0), .val (.int p1), .val (.ref b1), .val (.ref a0), .val (.int cnt.toInt32), .val (.int i5), s6] [(.int i5)])
      refine Goes.go (fun _ => XS.iload S.here B.x rfl (B.d d_prog_8_method_42_17) rfl) ?_
      show Goes _ _ _ _ T (mkF me_ 19 #[.val (.ref a0), .val (.int p1), .val (.ref b1), .val (.ref a0), .val (.int cnt.toInt32), .val (.int i5), s6] [(.int cnt.toInt32), (.int i5)])
      refine Goes.go (fun _ => XS.icmpYes S.here B.x rfl (pc0 := 19) (pc' := 44) rfl (B.d d_prog_8_method_42_19) rfl (flt (show ¬ (i5 < cnt.toInt32) from own_z1 hi hcnt)).2.1 (by decide) (by decide)) ?_
      show Goes _ _ _ _ T (mkF me_ 44 #[.val (.ref a0), .val (.int p1), .val (.ref b1), .val (.ref a0), .val (.int cnt.toInt32), .val (.int i5), s6] [])
      refine Goes.go (fun _ => XS.iconst S.here B.x rfl (B.d d_prog_8_method_42_44)) ?_
      show Goes _ _ _ _ T (mkF me_ 45 #[.val (.ref a0), .val (.int p1), .val (.ref b1), .val (.ref a0), .val (.int cnt.toInt32), .val (.int i5), s6] [(.int (0 : Int32))])
      refine Goes.go (fun _ => XS.istoreN S.here B.x rfl (B.d d_prog_8_method_42_45) rfl (l' := #[.val (.ref a0), .val (.int p1), .val (.ref b1), .val (.int (0 : Int32)), .val (.int cnt.toInt32), .val (.int i5), s6]) rfl) ?_
      show Goes _ _ _ _ T (mkF me_ 46 #[.val (.ref a0), .val (.int p1), .val (.ref b1), .val (.int (0 : Int32)), .val (.int cnt.toInt32), .val (.int i5), s6] [])
      have LP3 : ∀ (k : Nat) (T : State) (h : Heap) (j3 : Int32) (f2 : Nat → Int32), Sd pr_ l en_ ({ frames := 0, cells := 1, slots := 5, locals := 0 } : Room) st_ me_ #[(.ref a0), (.int p1)] below meth co_ T h n0 1 5 → Keep h0 h [] → Ary Z h b1 .int (p1 + (1 : Int32)).toNatClampNeg (fun i => (.int (f2 i))) → k ≤ p1.toInt.toNat → j3.toInt = ((p1.toInt.toNat - k : Nat) : Int) → f2 = own_l2 (own_l1 g cnt) (p1.toInt.toNat - k) → Goes pr_.tables en_ below (Fine st_ n0 (Q_rm_rs Z a0 p1 cnt g h0 n0) ({ frames := 0, cells := 1, slots := 5, locals := 0 } : Room).cells ({ frames := 0, cells := 1, slots := 5, locals := 0 } : Room).slots) T (mkF me_ 46 #[.val (.ref a0), .val (.int p1), .val (.ref b1), .val (.int j3), .val (.int cnt.toInt32), .val (.int i5), s6] []) := by
        intro k
        induction k with
        | zero =>
          intro T h j3 f2 S K A_b1 hk2 hj hf2
          refine Goes.go (fun _ => XS.iloadN S.here B.x rfl (B.d d_prog_8_method_42_46) rfl) ?_
          show Goes _ _ _ _ T (mkF me_ 47 #[.val (.ref a0), .val (.int p1), .val (.ref b1), .val (.int j3), .val (.int cnt.toInt32), .val (.int i5), s6] [(.int j3)])
          refine Goes.go (fun _ => XS.iloadN S.here B.x rfl (B.d d_prog_8_method_42_47) rfl) ?_
          show Goes _ _ _ _ T (mkF me_ 48 #[.val (.ref a0), .val (.int p1), .val (.ref b1), .val (.int j3), .val (.int cnt.toInt32), .val (.int i5), s6] [(.int p1), (.int j3)])
          refine Goes.go (fun _ => XS.icmpYes S.here B.x rfl (pc0 := 48) (pc' := 68) rfl (B.d d_prog_8_method_42_48) rfl (flt (show ¬ (j3 < p1) from own_z2 hj hr)).2.1 (by decide) (by decide)) ?_
          show Goes _ _ _ _ T (mkF me_ 68 #[.val (.ref a0), .val (.int p1), .val (.ref b1), .val (.int j3), .val (.int cnt.toInt32), .val (.int i5), s6] [])
          refine Goes.go (fun _ => XS.aloadN S.here B.x rfl (B.d d_prog_8_method_42_68) rfl rfl) ?_
          show Goes _ _ _ _ T (mkF me_ 69 #[.val (.ref a0), .val (.int p1), .val (.ref b1), .val (.int j3), .val (.int cnt.toInt32), .val (.int i5), s6] [(.ref b1)])
          refine Goes.retA S B rfl d_prog_8_method_42_69 (by decide) (by decide) ?_
          exact ⟨b1, _, rfl, z_b1, K, A_b1, by simpa using hf2⟩
        | succ k ih =>
          intro T h j3 f2 S K A_b1 hk2 hj hf2
          refine Goes.go (fun _ => XS.iloadN S.here B.x rfl (B.d d_prog_8_method_42_46) rfl) ?_
          show Goes _ _ _ _ T (mkF me_ 47 #[.val (.ref a0), .val (.int p1), .val (.ref b1), .val (.int j3), .val (.int cnt.toInt32), .val (.int i5), s6] [(.int j3)])
          refine Goes.go (fun _ => XS.iloadN S.here B.x rfl (B.d d_prog_8_method_42_47) rfl) ?_
          show Goes _ _ _ _ T (mkF me_ 48 #[.val (.ref a0), .val (.int p1), .val (.ref b1), .val (.int j3), .val (.int cnt.toInt32), .val (.int i5), s6] [(.int p1), (.int j3)])
          refine Goes.go (fun _ => XS.icmpNo S.here B.x rfl (B.d d_prog_8_method_42_48) rfl (tlt (show j3 < p1 from own_s2 hj hk2 hr)).2.1) ?_
          show Goes _ _ _ _ T (mkF me_ 51 #[.val (.ref a0), .val (.int p1), .val (.ref b1), .val (.int j3), .val (.int cnt.toInt32), .val (.int i5), s6] [])
          refine Goes.go (fun _ => XS.aloadN S.here B.x rfl (B.d d_prog_8_method_42_51) rfl rfl) ?_
          show Goes _ _ _ _ T (mkF me_ 52 #[.val (.ref a0), .val (.int p1), .val (.ref b1), .val (.int j3), .val (.int cnt.toInt32), .val (.int i5), s6] [(.ref b1)])
          refine Goes.go (fun _ => XS.iloadN S.here B.x rfl (B.d d_prog_8_method_42_52) rfl) ?_
          show Goes _ _ _ _ T (mkF me_ 53 #[.val (.ref a0), .val (.int p1), .val (.ref b1), .val (.int j3), .val (.int cnt.toInt32), .val (.int i5), s6] [(.int j3), (.ref b1)])
          refine Goes.go (fun _ => XS.iconst S.here B.x rfl (B.d d_prog_8_method_42_53)) ?_
          show Goes _ _ _ _ T (mkF me_ 54 #[.val (.ref a0), .val (.int p1), .val (.ref b1), .val (.int j3), .val (.int cnt.toInt32), .val (.int i5), s6] [(.int (1 : Int32)), (.int j3), (.ref b1)])
          refine Goes.go (fun _ => XS.iadd S.here B.x rfl (B.d d_prog_8_method_42_54) rfl) ?_
          show Goes _ _ _ _ T (mkF me_ 55 #[.val (.ref a0), .val (.int p1), .val (.ref b1), .val (.int j3), .val (.int cnt.toInt32), .val (.int i5), s6] [(.int (j3 + (1 : Int32))), (.ref b1)])
          refine Goes.go (fun _ => XT.dup2 S.here B.x rfl (B.d d_prog_8_method_42_55) rfl rfl rfl) ?_
          show Goes _ _ _ _ T (mkF me_ 56 #[.val (.ref a0), .val (.int p1), .val (.ref b1), .val (.int j3), .val (.int cnt.toInt32), .val (.int i5), s6] [(.int (j3 + (1 : Int32))), (.ref b1), (.int (j3 + (1 : Int32))), (.ref b1)])
          refine Goes.iaload S B A_b1 (own_j hj hk2 hr).1 (own_j hj hk2 hr).2.1 d_prog_8_method_42_56 (v := (.int (f2 (j3 + (1 : Int32)).toNatClampNeg))) rfl ?_
          show Goes _ _ _ _ T (mkF me_ 57 #[.val (.ref a0), .val (.int p1), .val (.ref b1), .val (.int j3), .val (.int cnt.toInt32), .val (.int i5), s6] [(.int (f2 (j3 + (1 : Int32)).toNatClampNeg)), (.int (j3 + (1 : Int32))), (.ref b1)])
          refine Goes.go (fun _ => XS.aloadN S.here B.x rfl (B.d d_prog_8_method_42_57) rfl rfl) ?_
          show Goes _ _ _ _ T (mkF me_ 58 #[.val (.ref a0), .val (.int p1), .val (.ref b1), .val (.int j3), .val (.int cnt.toInt32), .val (.int i5), s6] [(.ref b1), (.int (f2 (j3 + (1 : Int32)).toNatClampNeg)), (.int (j3 + (1 : Int32))), (.ref b1)])
          refine Goes.go (fun _ => XS.iloadN S.here B.x rfl (B.d d_prog_8_method_42_58) rfl) ?_
          show Goes _ _ _ _ T (mkF me_ 59 #[.val (.ref a0), .val (.int p1), .val (.ref b1), .val (.int j3), .val (.int cnt.toInt32), .val (.int i5), s6] [(.int j3), (.ref b1), (.int (f2 (j3 + (1 : Int32)).toNatClampNeg)), (.int (j3 + (1 : Int32))), (.ref b1)])
          refine Goes.iaload S B A_b1 (own_j hj hk2 hr).2.2.1 (own_j hj hk2 hr).2.2.2 d_prog_8_method_42_59 (v := (.int (f2 j3.toNatClampNeg))) rfl ?_
          show Goes _ _ _ _ T (mkF me_ 60 #[.val (.ref a0), .val (.int p1), .val (.ref b1), .val (.int j3), .val (.int cnt.toInt32), .val (.int i5), s6] [(.int (f2 j3.toNatClampNeg)), (.int (f2 (j3 + (1 : Int32)).toNatClampNeg)), (.int (j3 + (1 : Int32))), (.ref b1)])
          refine Goes.go (fun _ => XS.iadd S.here B.x rfl (B.d d_prog_8_method_42_60) rfl) ?_
          show Goes _ _ _ _ T (mkF me_ 61 #[.val (.ref a0), .val (.int p1), .val (.ref b1), .val (.int j3), .val (.int cnt.toInt32), .val (.int i5), s6] [(.int ((f2 (j3 + (1 : Int32)).toNatClampNeg) + (f2 j3.toNatClampNeg))), (.int (j3 + (1 : Int32))), (.ref b1)])
          refine Goes.iastore S B A_b1 (own_j hj hk2 hr).1 (own_j hj hk2 hr).2.1 g_b1 d_prog_8_method_42_61 ?_
          intro T h S W A_b1
          replace K := K.wr W (Or.inr z_b1)
          replace A_b1 : Ary Z h b1 .int (p1 + (1 : Int32)).toNatClampNeg (aup (fun i => (.int (f2 i))) (j3 + (1 : Int32)).toNatClampNeg (.int ((f2 (j3 + (1 : Int32)).toNatClampNeg) + (f2 j3.toNatClampNeg)))) := A_b1
          rw [aup_int] at A_b1
          show Goes _ _ _ _ T (mkF me_ 62 #[.val (.ref a0), .val (.int p1), .val (.ref b1), .val (.int j3), .val (.int cnt.toInt32), .val (.int i5), s6] [])
          refine Goes.go (fun _ => XS.iinc S.here B.x rfl (B.d d_prog_8_method_42_62) rfl (l' := #[.val (.ref a0), .val (.int p1), .val (.ref b1), .val (.int (j3 + (1 : Int32))), .val (.int cnt.toInt32), .val (.int i5), s6]) rfl) ?_
          show Goes _ _ _ _ T (mkF me_ 65 #[.val (.ref a0), .val (.int p1), .val (.ref b1), .val (.int (j3 + (1 : Int32))), .val (.int cnt.toInt32), .val (.int i5), s6] [])
          refine Goes.go (fun _ => XS.goto S.here B.x rfl (pc0 := 65) (pc' := 46) rfl (B.d d_prog_8_method_42_65) (by decide) (by decide)) ?_
          show Goes _ _ _ _ T (mkF me_ 46 #[.val (.ref a0), .val (.int p1), .val (.ref b1), .val (.int (j3 + (1 : Int32))), .val (.int cnt.toInt32), .val (.int i5), s6] [])
          exact ih T _ (j3 + (1 : Int32)) (aup f2 (j3 + (1 : Int32)).toNatClampNeg ((f2 (j3 + (1 : Int32)).toNatClampNeg) + (f2 j3.toNatClampNeg))) S K A_b1 (by omega) (own_inc hj hk2 (by omega)) (own_l2s hf2 hj hk2 (by omega))
      exact LP3 p1.toInt.toNat T _ (0 : Int32) f S K A_b1 (Nat.le_refl _) (by simp) (by simpa [own_l2] using hf)
    | succ k ih =>
      intro T h i5 s6 f S K A_a0 A_b1 hs6 hk hi hf
      refine Goes.go (fun _ => XS.iload S.here B.x rfl (B.d d_prog_8_method_42_15) rfl) ?_
      show Goes _ _ _ _ T (mkF me_ 17 #[.val (.ref a0), .val (.int p1), .val (.ref b1), .val (.ref a0), .val (.int cnt.toInt32), .val (.int i5), s6] [(.int i5)])
      refine Goes.go (fun _ => XS.iload S.here B.x rfl (B.d d_prog_8_method_42_17) rfl) ?_
      show Goes _ _ _ _ T (mkF me_ 19 #[.val (.ref a0), .val (.int p1), .val (.ref b1), .val (.ref a0), .val (.int cnt.toInt32), .val (.int i5), s6] [(.int cnt.toInt32), (.int i5)])
      refine Goes.go (fun _ => XS.icmpNo S.here B.x rfl (B.d d_prog_8_method_42_19) rfl (tlt (show i5 < cnt.toInt32 from own_s1 hi hk hcnt)).2.1) ?_
      show Goes _ _ _ _ T (mkF me_ 22 #[.val (.ref a0), .val (.int p1), .val (.ref b1), .val (.ref a0), .val (.int cnt.toInt32), .val (.int i5), s6] [])
      refine Goes.go (fun _ => XS.aloadN S.here B.x rfl (B.d d_prog_8_method_42_22) rfl rfl) ?_
      show Goes _ _ _ _ T (mkF me_ 23 #[.val (.ref a0), .val (.int p1), .val (.ref b1), .val (.ref a0), .val (.int cnt.toInt32), .val (.int i5), s6] [(.ref a0)])
      refine Goes.go (fun _ => XS.iload S.here B.x rfl (B.d d_prog_8_method_42_23) rfl) ?_
      show Goes _ _ _ _ T (mkF me_ 25 #[.val (.ref a0), .val (.int p1), .val (.ref b1), .val (.ref a0), .val (.int cnt.toInt32), .val (.int i5), s6] [(.int i5), (.ref a0)])
      refine Goes.iaload S B A_a0 (own_i hi hk hcnt).1 (own_i hi hk hcnt).2.1 d_prog_8_method_42_25 (v := (.int (g (cnt - (k + 1))))) (congrArg (fun z => Value.int (g z)) (own_i hi hk hcnt).2.2) ?_
      show Goes _ _ _ _ T (mkF me_ 26 #[.val (.ref a0), .val (.int p1), .val (.ref b1), .val (.ref a0), .val (.int cnt.toInt32), .val (.int i5), s6] [(.int (g (cnt - (k + 1))))])
      refine Goes.go (fun _ => XS.istore S.here B.x rfl (B.d d_prog_8_method_42_26) rfl (l' := #[.val (.ref a0), .val (.int p1), .val (.ref b1), .val (.ref a0), .val (.int cnt.toInt32), .val (.int i5), .val (.int (g (cnt - (k + 1))))]) (XS.store1 rfl hs6 rfl)) ?_
      show Goes _ _ _ _ T (mkF me_ 28 #[.val (.ref a0), .val (.int p1), .val (.ref b1), .val (.ref a0), .val (.int cnt.toInt32), .val (.int i5), .val (.int (g (cnt - (k + 1))))] [])
      refine Goes.go (fun _ => XS.aloadN S.here B.x rfl (B.d d_prog_8_method_42_28) rfl rfl) ?_
      show Goes _ _ _ _ T (mkF me_ 29 #[.val (.ref a0), .val (.int p1), .val (.ref b1), .val (.ref a0), .val (.int cnt.toInt32), .val (.int i5), .val (.int (g (cnt - (k + 1))))] [(.ref b1)])
      refine Goes.go (fun _ => XS.iload S.here B.x rfl (B.d d_prog_8_method_42_29) rfl) ?_
      show Goes _ _ _ _ T (mkF me_ 31 #[.val (.ref a0), .val (.int p1), .val (.ref b1), .val (.ref a0), .val (.int cnt.toInt32), .val (.int i5), .val (.int (g (cnt - (k + 1))))] [(.int (g (cnt - (k + 1)))), (.ref b1)])
      refine Goes.go (fun _ => XS.iconst S.here B.x rfl (B.d d_prog_8_method_42_31)) ?_
      show Goes _ _ _ _ T (mkF me_ 32 #[.val (.ref a0), .val (.int p1), .val (.ref b1), .val (.ref a0), .val (.int cnt.toInt32), .val (.int i5), .val (.int (g (cnt - (k + 1))))] [(.int (1 : Int32)), (.int (g (cnt - (k + 1)))), (.ref b1)])
      refine Goes.go (fun _ => XS.iadd S.here B.x rfl (B.d d_prog_8_method_42_32) rfl) ?_
      show Goes _ _ _ _ T (mkF me_ 33 #[.val (.ref a0), .val (.int p1), .val (.ref b1), .val (.ref a0), .val (.int cnt.toInt32), .val (.int i5), .val (.int (g (cnt - (k + 1))))] [(.int ((g (cnt - (k + 1))) + (1 : Int32))), (.ref b1)])
      refine Goes.go (fun _ => XT.dup2 S.here B.x rfl (B.d d_prog_8_method_42_33) rfl rfl rfl) ?_
      show Goes _ _ _ _ T (mkF me_ 34 #[.val (.ref a0), .val (.int p1), .val (.ref b1), .val (.ref a0), .val (.int cnt.toInt32), .val (.int i5), .val (.int (g (cnt - (k + 1))))] [(.int ((g (cnt - (k + 1))) + (1 : Int32))), (.ref b1), (.int ((g (cnt - (k + 1))) + (1 : Int32))), (.ref b1)])
      refine Goes.iaload S B A_b1 (own_k (hkeys (cnt - (k + 1)) (by omega)) hr).1 (own_k (hkeys (cnt - (k + 1)) (by omega)) hr).2 d_prog_8_method_42_34 (v := (.int (f ((g (cnt - (k + 1))) + (1 : Int32)).toNatClampNeg))) rfl ?_
      show Goes _ _ _ _ T (mkF me_ 35 #[.val (.ref a0), .val (.int p1), .val (.ref b1), .val (.ref a0), .val (.int cnt.toInt32), .val (.int i5), .val (.int (g (cnt - (k + 1))))] [(.int (f ((g (cnt - (k + 1))) + (1 : Int32)).toNatClampNeg)), (.int ((g (cnt - (k + 1))) + (1 : Int32))), (.ref b1)])
      refine Goes.go (fun _ => XS.iconst S.here B.x rfl (B.d d_prog_8_method_42_35)) ?_
      show Goes _ _ _ _ T (mkF me_ 36 #[.val (.ref a0), .val (.int p1), .val (.ref b1), .val (.ref a0), .val (.int cnt.toInt32), .val (.int i5), .val (.int (g (cnt - (k + 1))))] [(.int (1 : Int32)), (.int (f ((g (cnt - (k + 1))) + (1 : Int32)).toNatClampNeg)), (.int ((g (cnt - (k + 1))) + (1 : Int32))), (.ref b1)])
      refine Goes.go (fun _ => XS.iadd S.here B.x rfl (B.d d_prog_8_method_42_36) rfl) ?_
      show Goes _ _ _ _ T (mkF me_ 37 #[.val (.ref a0), .val (.int p1), .val (.ref b1), .val (.ref a0), .val (.int cnt.toInt32), .val (.int i5), .val (.int (g (cnt - (k + 1))))] [(.int ((f ((g (cnt - (k + 1))) + (1 : Int32)).toNatClampNeg) + (1 : Int32))), (.int ((g (cnt - (k + 1))) + (1 : Int32))), (.ref b1)])
      refine Goes.iastore S B A_b1 (own_k (hkeys (cnt - (k + 1)) (by omega)) hr).1 (own_k (hkeys (cnt - (k + 1)) (by omega)) hr).2 g_b1 d_prog_8_method_42_37 ?_
      intro T h S W A_b1
      replace K := K.wr W (Or.inr z_b1)
      replace A_a0 := A_a0.other W ne_a0__b1
      replace A_b1 : Ary Z h b1 .int (p1 + (1 : Int32)).toNatClampNeg (aup (fun i => (.int (f i))) ((g (cnt - (k + 1))) + (1 : Int32)).toNatClampNeg (.int ((f ((g (cnt - (k + 1))) + (1 : Int32)).toNatClampNeg) + (1 : Int32)))) := A_b1
      rw [aup_int] at A_b1
      show Goes _ _ _ _ T (mkF me_ 38 #[.val (.ref a0), .val (.int p1), .val (.ref b1), .val (.ref a0), .val (.int cnt.toInt32), .val (.int i5), .val (.int (g (cnt - (k + 1))))] [])
      refine Goes.go (fun _ => XS.iinc S.here B.x rfl (B.d d_prog_8_method_42_38) rfl (l' := #[.val (.ref a0), .val (.int p1), .val (.ref b1), .val (.ref a0), .val (.int cnt.toInt32), .val (.int (i5 + (1 : Int32))), .val (.int (g (cnt - (k + 1))))]) rfl) ?_
      show Goes _ _ _ _ T (mkF me_ 41 #[.val (.ref a0), .val (.int p1), .val (.ref b1), .val (.ref a0), .val (.int cnt.toInt32), .val (.int (i5 + (1 : Int32))), .val (.int (g (cnt - (k + 1))))] [])
      refine Goes.go (fun _ => XS.goto S.here B.x rfl (pc0 := 41) (pc' := 15) rfl (B.d d_prog_8_method_42_41) (by decide) (by decide)) ?_
      show Goes _ _ _ _ T (mkF me_ 15 #[.val (.ref a0), .val (.int p1), .val (.ref b1), .val (.ref a0), .val (.int cnt.toInt32), .val (.int (i5 + (1 : Int32))), .val (.int (g (cnt - (k + 1))))] [])
      exact ih T _ (i5 + (1 : Int32)) (.val (.int (g (cnt - (k + 1))))) (aup f ((g (cnt - (k + 1))) + (1 : Int32)).toNatClampNeg ((f ((g (cnt - (k + 1))) + (1 : Int32)).toNatClampNeg) + (1 : Int32))) S K A_a0 A_b1 (One.val rfl) (by omega) (own_inc hi hk hcnt) (own_l1s hf hk)
  exact LP2 cnt T _ (0 : Int32) (.unset) (fun _ => 0) S K A_a0 A_b1 One.u (Nat.le_refl _) (by simp) (by simp [own_l1])
theorem ef_rm0 (m : MethodId) (p0 : Int32) (p1 : Int32) (p2 : Int32) (p3 : Int32) (p4 : Int32) (p5 : Int32) : entryFrame m #[(.int p0), (.int p1), (.int p2), (.int p3), (.int p4), (.int p5)] maxLocals = mkF m 0 #[.val (.int p0), .val (.int p1), .val (.int p2), .val (.int p3), .val (.int p4), .val (.int p5), .unset, .unset, .unset, .unset, .unset, .unset, .unset, .unset, .unset] [] := by first | (simp [entryFrame, mkF, argsToLocals, Value.category, maxLocals]; done) | rfl
def Q_rm0 (Z : State) (p0 : Int32) (p1 : Int32) (p2 : Int32) (p3 : Int32) (p4 : Int32) (p5 : Int32) (h0 : Heap) (n0 : Nat) (v : Option Value) (h : Heap) : Prop := v = some (.int 1)
set_option maxRecDepth 65536 in
set_option maxHeartbeats 40000000 in
theorem rm0 (l : Launch) (Z : State) (aw : Array Value) (hw : ∀ d ∈ tables_1, d.before aw Z = true) (p0 : Int32) (p1 : Int32) (p2 : Int32) (p3 : Int32) (p4 : Int32) (p5 : Int32) (h0 : Heap) (n0 : Nat) :
    Con l Z x code maxLocals ret room_1 #[(.int p0), (.int p1), (.int p2), (.int p3), (.int p4), (.int p5)] h0 n0 (Q_rm0 Z p0 p1 p2 p3 p4 p5 h0 n0) := by
  refine Con.body (plainFor_of_name pn_0) ?_
  intro pr_ en_ st_ me_ below meth co_ T B S
  refine Goes.cast (ef_rm0 me_ p0 p1 p2 p3 p4 p5) ?_
  refine Goes.go (fun _ => XS.iloadN S.here B.x rfl (B.d at_0) rfl) ?_
  show Goes _ _ _ _ T (mkF me_ 1 #[.val (.int p0), .val (.int p1), .val (.int p2), .val (.int p3), .val (.int p4), .val (.int p5), .unset, .unset, .unset, .unset, .unset, .unset, .unset, .unset, .unset] [(.int p0)])
  refine Goes.go (fun _ => XS.bipush S.here B.x rfl (B.d at_1)) ?_
  show Goes _ _ _ _ T (mkF me_ 3 #[.val (.int p0), .val (.int p1), .val (.int p2), .val (.int p3), .val (.int p4), .val (.int p5), .unset, .unset, .unset, .unset, .unset, .unset, .unset, .unset, .unset] [(.int (7 : Int32)), (.int p0)])
  refine Goes.go (fun _ => XS.iand S.here B.x rfl (B.d at_3) rfl) ?_
  show Goes _ _ _ _ T (mkF me_ 4 #[.val (.int p0), .val (.int p1), .val (.int p2), .val (.int p3), .val (.int p4), .val (.int p5), .unset, .unset, .unset, .unset, .unset, .unset, .unset, .unset, .unset] [(.int (p0 &&& (7 : Int32)))])
  refine Goes.go (fun _ => XS.iconst S.here B.x rfl (B.d at_4)) ?_
  show Goes _ _ _ _ T (mkF me_ 5 #[.val (.int p0), .val (.int p1), .val (.int p2), .val (.int p3), .val (.int p4), .val (.int p5), .unset, .unset, .unset, .unset, .unset, .unset, .unset, .unset, .unset] [(.int (5 : Int32)), (.int (p0 &&& (7 : Int32)))])
  refine Goes.irem S B at_5 (by decide) ?_
  show Goes _ _ _ _ T (mkF me_ 6 #[.val (.int p0), .val (.int p1), .val (.int p2), .val (.int p3), .val (.int p4), .val (.int p5), .unset, .unset, .unset, .unset, .unset, .unset, .unset, .unset, .unset] [(.int ((p0 &&& (7 : Int32)) % (5 : Int32)))])
  generalize hv1 : ((p0 &&& (7 : Int32)) % (5 : Int32)) = v1
  refine Goes.go (fun _ => XS.istore S.here B.x rfl (B.d at_6) rfl (l' := #[.val (.int p0), .val (.int p1), .val (.int p2), .val (.int p3), .val (.int p4), .val (.int p5), .val (.int v1), .unset, .unset, .unset, .unset, .unset, .unset, .unset, .unset]) rfl) ?_
  show Goes _ _ _ _ T (mkF me_ 8 #[.val (.int p0), .val (.int p1), .val (.int p2), .val (.int p3), .val (.int p4), .val (.int p5), .val (.int v1), .unset, .unset, .unset, .unset, .unset, .unset, .unset, .unset] [])
  have hrg : 0 ≤ v1.toInt ∧ v1.toInt ≤ 4 := own_rg p0 _ hv1
  have J2 : ∀ (T : State) (c7 : Int32), Sd pr_ l en_ room_1 st_ me_ #[(.int p0), (.int p1), (.int p2), (.int p3), (.int p4), (.int p5)] below meth co_ T h0 n0 0 0 → 0 ≤ c7.toInt ∧ c7.toInt ≤ 4 ∧ (v1 = 0 → c7 = 0) → Goes pr_.tables en_ below (Fine st_ n0 (Q_rm0 Z p0 p1 p2 p3 p4 p5 h0 n0) room_1.cells room_1.slots) T (mkF me_ 25 #[.val (.int p0), .val (.int p1), .val (.int p2), .val (.int p3), .val (.int p4), .val (.int p5), .val (.int v1), .val (.int c7), .unset, .unset, .unset, .unset, .unset, .unset, .unset] []) := by
    intro T c7 S hc7
    refine Goes.go (fun _ => XS.iload S.here B.x rfl (B.d at_25) rfl) ?_
    show Goes _ _ _ _ T (mkF me_ 27 #[.val (.int p0), .val (.int p1), .val (.int p2), .val (.int p3), .val (.int p4), .val (.int p5), .val (.int v1), .val (.int c7), .unset, .unset, .unset, .unset, .unset, .unset, .unset] [(.int v1)])
    refine Goes.go (fun _ => XS.iconst S.here B.x rfl (B.d at_27)) ?_
    show Goes _ _ _ _ T (mkF me_ 28 #[.val (.int p0), .val (.int p1), .val (.int p2), .val (.int p3), .val (.int p4), .val (.int p5), .val (.int v1), .val (.int c7), .unset, .unset, .unset, .unset, .unset, .unset, .unset] [(.int (1 : Int32)), (.int v1)])
    refine Goes.callS (argsL := [(.int v1), (.int (1 : Int32))]) (rest := []) (W := 0) S B (rm_max l Z aw hw v1 (1 : Int32) _ n0) (w0 hw) (w1 hw) (w2 hw) (w3 hw) (by decide) (by decide) (by decide) (by decide) (by decide) rfl (lenOf pd_1 rfl) rfl (Nat.le_of_eq rfl) at_28 ?_
    intro v T h S hQ
    obtain ⟨rfl, hh⟩ := hQ
    replace hh := hh.symm
    subst hh
    show Goes _ _ _ _ T (mkF me_ 31 #[.val (.int p0), .val (.int p1), .val (.int p2), .val (.int p3), .val (.int p4), .val (.int p5), .val (.int v1), .val (.int c7), .unset, .unset, .unset, .unset, .unset, .unset, .unset] [(.int (own_max v1 (1 : Int32)))])
    generalize hr3 : (own_max v1 (1 : Int32)) = r3
    refine Goes.go (fun _ => XS.istore S.here B.x rfl (B.d at_31) rfl (l' := #[.val (.int p0), .val (.int p1), .val (.int p2), .val (.int p3), .val (.int p4), .val (.int p5), .val (.int v1), .val (.int c7), .val (.int r3), .unset, .unset, .unset, .unset, .unset, .unset]) rfl) ?_
    show Goes _ _ _ _ T (mkF me_ 33 #[.val (.int p0), .val (.int p1), .val (.int p2), .val (.int p3), .val (.int p4), .val (.int p5), .val (.int v1), .val (.int c7), .val (.int r3), .unset, .unset, .unset, .unset, .unset, .unset] [])
    refine Goes.go (fun _ => XS.iloadN S.here B.x rfl (B.d at_33) rfl) ?_
    show Goes _ _ _ _ T (mkF me_ 34 #[.val (.int p0), .val (.int p1), .val (.int p2), .val (.int p3), .val (.int p4), .val (.int p5), .val (.int v1), .val (.int c7), .val (.int r3), .unset, .unset, .unset, .unset, .unset, .unset] [(.int p2)])
    refine Goes.ldcI S B (w4 hw) at_34 ?_
    show Goes _ _ _ _ T (mkF me_ 36 #[.val (.int p0), .val (.int p1), .val (.int p2), .val (.int p3), .val (.int p4), .val (.int p5), .val (.int v1), .val (.int c7), .val (.int r3), .unset, .unset, .unset, .unset, .unset, .unset] [(.int (2147483647 : Int32)), (.int p2)])
    refine Goes.go (fun _ => XS.iand S.here B.x rfl (B.d at_36) rfl) ?_
    show Goes _ _ _ _ T (mkF me_ 37 #[.val (.int p0), .val (.int p1), .val (.int p2), .val (.int p3), .val (.int p4), .val (.int p5), .val (.int v1), .val (.int c7), .val (.int r3), .unset, .unset, .unset, .unset, .unset, .unset] [(.int (p2 &&& (2147483647 : Int32)))])
    refine Goes.go (fun _ => XS.iload S.here B.x rfl (B.d at_37) rfl) ?_
    show Goes _ _ _ _ T (mkF me_ 39 #[.val (.int p0), .val (.int p1), .val (.int p2), .val (.int p3), .val (.int p4), .val (.int p5), .val (.int v1), .val (.int c7), .val (.int r3), .unset, .unset, .unset, .unset, .unset, .unset] [(.int r3), (.int (p2 &&& (2147483647 : Int32)))])
    refine Goes.irem S B at_39 (own_mz hr3) ?_
    show Goes _ _ _ _ T (mkF me_ 40 #[.val (.int p0), .val (.int p1), .val (.int p2), .val (.int p3), .val (.int p4), .val (.int p5), .val (.int v1), .val (.int c7), .val (.int r3), .unset, .unset, .unset, .unset, .unset, .unset] [(.int ((p2 &&& (2147483647 : Int32)) % r3))])
    generalize hv4 : ((p2 &&& (2147483647 : Int32)) % r3) = v4
    refine Goes.go (fun _ => XS.istore S.here B.x rfl (B.d at_40) rfl (l' := #[.val (.int p0), .val (.int p1), .val (.int p2), .val (.int p3), .val (.int p4), .val (.int p5), .val (.int v1), .val (.int c7), .val (.int r3), .val (.int v4), .unset, .unset, .unset, .unset, .unset]) rfl) ?_
    show Goes _ _ _ _ T (mkF me_ 42 #[.val (.int p0), .val (.int p1), .val (.int p2), .val (.int p3), .val (.int p4), .val (.int p5), .val (.int v1), .val (.int c7), .val (.int r3), .val (.int v4), .unset, .unset, .unset, .unset, .unset] [])
    refine Goes.go (fun _ => XS.iloadN S.here B.x rfl (B.d at_42) rfl) ?_
    show Goes _ _ _ _ T (mkF me_ 43 #[.val (.int p0), .val (.int p1), .val (.int p2), .val (.int p3), .val (.int p4), .val (.int p5), .val (.int v1), .val (.int c7), .val (.int r3), .val (.int v4), .unset, .unset, .unset, .unset, .unset] [(.int p3)])
    refine Goes.ldcI S B (w4 hw) at_43 ?_
    show Goes _ _ _ _ T (mkF me_ 45 #[.val (.int p0), .val (.int p1), .val (.int p2), .val (.int p3), .val (.int p4), .val (.int p5), .val (.int v1), .val (.int c7), .val (.int r3), .val (.int v4), .unset, .unset, .unset, .unset, .unset] [(.int (2147483647 : Int32)), (.int p3)])
    refine Goes.go (fun _ => XS.iand S.here B.x rfl (B.d at_45) rfl) ?_
    show Goes _ _ _ _ T (mkF me_ 46 #[.val (.int p0), .val (.int p1), .val (.int p2), .val (.int p3), .val (.int p4), .val (.int p5), .val (.int v1), .val (.int c7), .val (.int r3), .val (.int v4), .unset, .unset, .unset, .unset, .unset] [(.int (p3 &&& (2147483647 : Int32)))])
    refine Goes.go (fun _ => XS.iload S.here B.x rfl (B.d at_46) rfl) ?_
    show Goes _ _ _ _ T (mkF me_ 48 #[.val (.int p0), .val (.int p1), .val (.int p2), .val (.int p3), .val (.int p4), .val (.int p5), .val (.int v1), .val (.int c7), .val (.int r3), .val (.int v4), .unset, .unset, .unset, .unset, .unset] [(.int r3), (.int (p3 &&& (2147483647 : Int32)))])
    refine Goes.irem S B at_48 (own_mz hr3) ?_
    show Goes _ _ _ _ T (mkF me_ 49 #[.val (.int p0), .val (.int p1), .val (.int p2), .val (.int p3), .val (.int p4), .val (.int p5), .val (.int v1), .val (.int c7), .val (.int r3), .val (.int v4), .unset, .unset, .unset, .unset, .unset] [(.int ((p3 &&& (2147483647 : Int32)) % r3))])
    generalize hv5 : ((p3 &&& (2147483647 : Int32)) % r3) = v5
    refine Goes.go (fun _ => XS.istore S.here B.x rfl (B.d at_49) rfl (l' := #[.val (.int p0), .val (.int p1), .val (.int p2), .val (.int p3), .val (.int p4), .val (.int p5), .val (.int v1), .val (.int c7), .val (.int r3), .val (.int v4), .val (.int v5), .unset, .unset, .unset, .unset]) rfl) ?_
    show Goes _ _ _ _ T (mkF me_ 51 #[.val (.int p0), .val (.int p1), .val (.int p2), .val (.int p3), .val (.int p4), .val (.int p5), .val (.int v1), .val (.int c7), .val (.int r3), .val (.int v4), .val (.int v5), .unset, .unset, .unset, .unset] [])
    refine Goes.go (fun _ => XS.iload S.here B.x rfl (B.d at_51) rfl) ?_
    show Goes _ _ _ _ T (mkF me_ 53 #[.val (.int p0), .val (.int p1), .val (.int p2), .val (.int p3), .val (.int p4), .val (.int p5), .val (.int v1), .val (.int c7), .val (.int r3), .val (.int v4), .val (.int v5), .unset, .unset, .unset, .unset] [(.int p4)])
    refine Goes.ldcI S B (w4 hw) at_53 ?_
    show Goes _ _ _ _ T (mkF me_ 55 #[.val (.int p0), .val (.int p1), .val (.int p2), .val (.int p3), .val (.int p4), .val (.int p5), .val (.int v1), .val (.int c7), .val (.int r3), .val (.int v4), .val (.int v5), .unset, .unset, .unset, .unset] [(.int (2147483647 : Int32)), (.int p4)])
    refine Goes.go (fun _ => XS.iand S.here B.x rfl (B.d at_55) rfl) ?_
    show Goes _ _ _ _ T (mkF me_ 56 #[.val (.int p0), .val (.int p1), .val (.int p2), .val (.int p3), .val (.int p4), .val (.int p5), .val (.int v1), .val (.int c7), .val (.int r3), .val (.int v4), .val (.int v5), .unset, .unset, .unset, .unset] [(.int (p4 &&& (2147483647 : Int32)))])
    refine Goes.go (fun _ => XS.iload S.here B.x rfl (B.d at_56) rfl) ?_
    show Goes _ _ _ _ T (mkF me_ 58 #[.val (.int p0), .val (.int p1), .val (.int p2), .val (.int p3), .val (.int p4), .val (.int p5), .val (.int v1), .val (.int c7), .val (.int r3), .val (.int v4), .val (.int v5), .unset, .unset, .unset, .unset] [(.int r3), (.int (p4 &&& (2147483647 : Int32)))])
    refine Goes.irem S B at_58 (own_mz hr3) ?_
    show Goes _ _ _ _ T (mkF me_ 59 #[.val (.int p0), .val (.int p1), .val (.int p2), .val (.int p3), .val (.int p4), .val (.int p5), .val (.int v1), .val (.int c7), .val (.int r3), .val (.int v4), .val (.int v5), .unset, .unset, .unset, .unset] [(.int ((p4 &&& (2147483647 : Int32)) % r3))])
    generalize hv6 : ((p4 &&& (2147483647 : Int32)) % r3) = v6
    refine Goes.go (fun _ => XS.istore S.here B.x rfl (B.d at_59) rfl (l' := #[.val (.int p0), .val (.int p1), .val (.int p2), .val (.int p3), .val (.int p4), .val (.int p5), .val (.int v1), .val (.int c7), .val (.int r3), .val (.int v4), .val (.int v5), .val (.int v6), .unset, .unset, .unset]) rfl) ?_
    show Goes _ _ _ _ T (mkF me_ 61 #[.val (.int p0), .val (.int p1), .val (.int p2), .val (.int p3), .val (.int p4), .val (.int p5), .val (.int v1), .val (.int c7), .val (.int r3), .val (.int v4), .val (.int v5), .val (.int v6), .unset, .unset, .unset] [])
    refine Goes.go (fun _ => XS.iload S.here B.x rfl (B.d at_61) rfl) ?_
    show Goes _ _ _ _ T (mkF me_ 63 #[.val (.int p0), .val (.int p1), .val (.int p2), .val (.int p3), .val (.int p4), .val (.int p5), .val (.int v1), .val (.int c7), .val (.int r3), .val (.int v4), .val (.int v5), .val (.int v6), .unset, .unset, .unset] [(.int p5)])
    refine Goes.ldcI S B (w4 hw) at_63 ?_
    show Goes _ _ _ _ T (mkF me_ 65 #[.val (.int p0), .val (.int p1), .val (.int p2), .val (.int p3), .val (.int p4), .val (.int p5), .val (.int v1), .val (.int c7), .val (.int r3), .val (.int v4), .val (.int v5), .val (.int v6), .unset, .unset, .unset] [(.int (2147483647 : Int32)), (.int p5)])
    refine Goes.go (fun _ => XS.iand S.here B.x rfl (B.d at_65) rfl) ?_
    show Goes _ _ _ _ T (mkF me_ 66 #[.val (.int p0), .val (.int p1), .val (.int p2), .val (.int p3), .val (.int p4), .val (.int p5), .val (.int v1), .val (.int c7), .val (.int r3), .val (.int v4), .val (.int v5), .val (.int v6), .unset, .unset, .unset] [(.int (p5 &&& (2147483647 : Int32)))])
    refine Goes.go (fun _ => XS.iload S.here B.x rfl (B.d at_66) rfl) ?_
    show Goes _ _ _ _ T (mkF me_ 68 #[.val (.int p0), .val (.int p1), .val (.int p2), .val (.int p3), .val (.int p4), .val (.int p5), .val (.int v1), .val (.int c7), .val (.int r3), .val (.int v4), .val (.int v5), .val (.int v6), .unset, .unset, .unset] [(.int r3), (.int (p5 &&& (2147483647 : Int32)))])
    refine Goes.irem S B at_68 (own_mz hr3) ?_
    show Goes _ _ _ _ T (mkF me_ 69 #[.val (.int p0), .val (.int p1), .val (.int p2), .val (.int p3), .val (.int p4), .val (.int p5), .val (.int v1), .val (.int c7), .val (.int r3), .val (.int v4), .val (.int v5), .val (.int v6), .unset, .unset, .unset] [(.int ((p5 &&& (2147483647 : Int32)) % r3))])
    generalize hv7 : ((p5 &&& (2147483647 : Int32)) % r3) = v7
    refine Goes.go (fun _ => XS.istore S.here B.x rfl (B.d at_69) rfl (l' := #[.val (.int p0), .val (.int p1), .val (.int p2), .val (.int p3), .val (.int p4), .val (.int p5), .val (.int v1), .val (.int c7), .val (.int r3), .val (.int v4), .val (.int v5), .val (.int v6), .val (.int v7), .unset, .unset]) rfl) ?_
    show Goes _ _ _ _ T (mkF me_ 71 #[.val (.int p0), .val (.int p1), .val (.int p2), .val (.int p3), .val (.int p4), .val (.int p5), .val (.int v1), .val (.int c7), .val (.int r3), .val (.int v4), .val (.int v5), .val (.int v6), .val (.int v7), .unset, .unset] [])
    rcases own_five hc7.1 hc7.2.1 with rfl | rfl | rfl | rfl | rfl
    · skip
      show Goes _ _ _ _ T (mkF me_ 71 #[.val (.int p0), .val (.int p1), .val (.int p2), .val (.int p3), .val (.int p4), .val (.int p5), .val (.int v1), .val (.int (0 : Int32)), .val (.int r3), .val (.int v4), .val (.int v5), .val (.int v6), .val (.int v7), .unset, .unset] [])
      refine Goes.go (fun _ => XS.iload S.here B.x rfl (B.d at_71) rfl) ?_
      show Goes _ _ _ _ T (mkF me_ 73 #[.val (.int p0), .val (.int p1), .val (.int p2), .val (.int p3), .val (.int p4), .val (.int p5), .val (.int v1), .val (.int (0 : Int32)), .val (.int r3), .val (.int v4), .val (.int v5), .val (.int v6), .val (.int v7), .unset, .unset] [(.int (0 : Int32))])
      refine Goes.go (fun _ => XS.ifNo S.here B.x rfl (B.d at_73) rfl (by decide)) ?_
      show Goes _ _ _ _ T (mkF me_ 76 #[.val (.int p0), .val (.int p1), .val (.int p2), .val (.int p3), .val (.int p4), .val (.int p5), .val (.int v1), .val (.int (0 : Int32)), .val (.int r3), .val (.int v4), .val (.int v5), .val (.int v6), .val (.int v7), .unset, .unset] [])
      refine Goes.go (fun _ => XS.iconst S.here B.x rfl (B.d at_76)) ?_
      show Goes _ _ _ _ T (mkF me_ 77 #[.val (.int p0), .val (.int p1), .val (.int p2), .val (.int p3), .val (.int p4), .val (.int p5), .val (.int v1), .val (.int (0 : Int32)), .val (.int r3), .val (.int v4), .val (.int v5), .val (.int v6), .val (.int v7), .unset, .unset] [(.int (0 : Int32))])
      refine Goes.newP (aty := .int) (cap := 0) S B (w5 hw) at_77 (by decide) (by decide) (by decide) (by decide) (by decide) ?_
      intro T h b8 S X zb g_b8 A_b8
      replace A_b8 : Ary Z h b8 .int 0 (fun i => (.int ((fun _ => 0) i))) := A_b8
      show Goes _ _ _ _ T (mkF me_ 79 #[.val (.int p0), .val (.int p1), .val (.int p2), .val (.int p3), .val (.int p4), .val (.int p5), .val (.int v1), .val (.int (0 : Int32)), .val (.int r3), .val (.int v4), .val (.int v5), .val (.int v6), .val (.int v7), .unset, .unset] [(.ref b8)])
      refine Goes.go (fun _ => XS.astore S.here B.x rfl (B.d at_79) rfl rfl (l' := #[.val (.int p0), .val (.int p1), .val (.int p2), .val (.int p3), .val (.int p4), .val (.int p5), .val (.int v1), .val (.int (0 : Int32)), .val (.int r3), .val (.int v4), .val (.int v5), .val (.int v6), .val (.int v7), .val (.ref b8), .unset]) rfl) ?_
      show Goes _ _ _ _ T (mkF me_ 81 #[.val (.int p0), .val (.int p1), .val (.int p2), .val (.int p3), .val (.int p4), .val (.int p5), .val (.int v1), .val (.int (0 : Int32)), .val (.int r3), .val (.int v4), .val (.int v5), .val (.int v6), .val (.int v7), .val (.ref b8), .unset] [])
      refine Goes.go (fun _ => XS.goto S.here B.x rfl (pc0 := 81) (pc' := 181) rfl (B.d at_81) (by decide) (by decide)) ?_
      show Goes _ _ _ _ T (mkF me_ 181 #[.val (.int p0), .val (.int p1), .val (.int p2), .val (.int p3), .val (.int p4), .val (.int p5), .val (.int v1), .val (.int (0 : Int32)), .val (.int r3), .val (.int v4), .val (.int v5), .val (.int v6), .val (.int v7), .val (.ref b8), .unset] [])
      refine Goes.go (fun _ => XS.aload S.here B.x rfl (B.d at_181) rfl rfl) ?_
      show Goes _ _ _ _ T (mkF me_ 183 #[.val (.int p0), .val (.int p1), .val (.int p2), .val (.int p3), .val (.int p4), .val (.int p5), .val (.int v1), .val (.int (0 : Int32)), .val (.int r3), .val (.int v4), .val (.int v5), .val (.int v6), .val (.int v7), .val (.ref b8), .unset] [(.ref b8)])
      refine Goes.go (fun _ => XS.iload S.here B.x rfl (B.d at_183) rfl) ?_
      show Goes _ _ _ _ T (mkF me_ 185 #[.val (.int p0), .val (.int p1), .val (.int p2), .val (.int p3), .val (.int p4), .val (.int p5), .val (.int v1), .val (.int (0 : Int32)), .val (.int r3), .val (.int v4), .val (.int v5), .val (.int v6), .val (.int v7), .val (.ref b8), .unset] [(.int v1), (.ref b8)])
      have zle := S.le
      refine Goes.callS (argsL := [(.ref b8), (.int v1)]) (rest := []) (W := 0) S B (rm_rs l Z aw hw b8 v1 0 (fun _ => 0) _ n0 A_b8 hrg (by decide) (own_k0 v1)) (w6 hw) (w7 hw) (w8 hw) (w9 hw) (by decide) (by decide) (by decide) (by decide) (by decide) rfl (lenOf pd_2 rfl) rfl (Nat.le_of_eq rfl) at_185 ?_
      intro v T h S hQ
      obtain ⟨b9, u10, rfl, zb, Kc, A_b9', hf3_185⟩ := hQ
      have ne_b8__b9 : b8 ≠ b9 := Nat.ne_of_lt (Nat.lt_of_lt_of_le A_b8.lt zb)
      have g_b9 : n0 ≤ b9 := Nat.le_trans zle zb
      replace A_b8 := A_b8.keep Kc nin0
      have A_b9 := A_b9'
      show Goes _ _ _ _ T (mkF me_ 188 #[.val (.int p0), .val (.int p1), .val (.int p2), .val (.int p3), .val (.int p4), .val (.int p5), .val (.int v1), .val (.int (0 : Int32)), .val (.int r3), .val (.int v4), .val (.int v5), .val (.int v6), .val (.int v7), .val (.ref b8), .unset] [(.ref b9)])
      have hkk := (own_k0 v1)
      refine Goes.go (fun _ => XS.astore S.here B.x rfl (B.d at_188) rfl rfl (l' := #[.val (.int p0), .val (.int p1), .val (.int p2), .val (.int p3), .val (.int p4), .val (.int p5), .val (.int v1), .val (.int (0 : Int32)), .val (.int r3), .val (.int v4), .val (.int v5), .val (.int v6), .val (.int v7), .val (.ref b8), .val (.ref b9)]) rfl) ?_
      show Goes _ _ _ _ T (mkF me_ 190 #[.val (.int p0), .val (.int p1), .val (.int p2), .val (.int p3), .val (.int p4), .val (.int p5), .val (.int v1), .val (.int (0 : Int32)), .val (.int r3), .val (.int v4), .val (.int v5), .val (.int v6), .val (.int v7), .val (.ref b8), .val (.ref b9)] [])
      refine Goes.go (fun _ => XS.aload S.here B.x rfl (B.d at_190) rfl rfl) ?_
      show Goes _ _ _ _ T (mkF me_ 192 #[.val (.int p0), .val (.int p1), .val (.int p2), .val (.int p3), .val (.int p4), .val (.int p5), .val (.int v1), .val (.int (0 : Int32)), .val (.int r3), .val (.int v4), .val (.int v5), .val (.int v6), .val (.int v7), .val (.ref b8), .val (.ref b9)] [(.ref b9)])
      refine Goes.alen S B A_b9 (z := (v1 + (1 : Int32))) (back32 (own_np hrg).1).1 at_192 ?_
      show Goes _ _ _ _ T (mkF me_ 193 #[.val (.int p0), .val (.int p1), .val (.int p2), .val (.int p3), .val (.int p4), .val (.int p5), .val (.int v1), .val (.int (0 : Int32)), .val (.int r3), .val (.int v4), .val (.int v5), .val (.int v6), .val (.int v7), .val (.ref b8), .val (.ref b9)] [(.int (v1 + (1 : Int32)))])
      refine Goes.go (fun _ => XS.iload S.here B.x rfl (B.d at_193) rfl) ?_
      show Goes _ _ _ _ T (mkF me_ 195 #[.val (.int p0), .val (.int p1), .val (.int p2), .val (.int p3), .val (.int p4), .val (.int p5), .val (.int v1), .val (.int (0 : Int32)), .val (.int r3), .val (.int v4), .val (.int v5), .val (.int v6), .val (.int v7), .val (.ref b8), .val (.ref b9)] [(.int v1), (.int (v1 + (1 : Int32)))])
      refine Goes.go (fun _ => XS.iconst S.here B.x rfl (B.d at_195)) ?_
      show Goes _ _ _ _ T (mkF me_ 196 #[.val (.int p0), .val (.int p1), .val (.int p2), .val (.int p3), .val (.int p4), .val (.int p5), .val (.int v1), .val (.int (0 : Int32)), .val (.int r3), .val (.int v4), .val (.int v5), .val (.int v6), .val (.int v7), .val (.ref b8), .val (.ref b9)] [(.int (1 : Int32)), (.int v1), (.int (v1 + (1 : Int32)))])
      refine Goes.go (fun _ => XS.iadd S.here B.x rfl (B.d at_196) rfl) ?_
      show Goes _ _ _ _ T (mkF me_ 197 #[.val (.int p0), .val (.int p1), .val (.int p2), .val (.int p3), .val (.int p4), .val (.int p5), .val (.int v1), .val (.int (0 : Int32)), .val (.int r3), .val (.int v4), .val (.int v5), .val (.int v6), .val (.int v7), .val (.ref b8), .val (.ref b9)] [(.int (v1 + (1 : Int32))), (.int (v1 + (1 : Int32)))])
      refine Goes.go (fun _ => XS.icmpYes S.here B.x rfl (pc0 := 197) (pc' := 202) rfl (B.d at_197) rfl (teq (rfl : (v1 + (1 : Int32)) = (v1 + (1 : Int32)))).1 (by decide) (by decide)) ?_
      show Goes _ _ _ _ T (mkF me_ 202 #[.val (.int p0), .val (.int p1), .val (.int p2), .val (.int p3), .val (.int p4), .val (.int p5), .val (.int v1), .val (.int (0 : Int32)), .val (.int r3), .val (.int v4), .val (.int v5), .val (.int v6), .val (.int v7), .val (.ref b8), .val (.ref b9)] [])
      refine Goes.go (fun _ => XS.aload S.here B.x rfl (B.d at_202) rfl rfl) ?_
      show Goes _ _ _ _ T (mkF me_ 204 #[.val (.int p0), .val (.int p1), .val (.int p2), .val (.int p3), .val (.int p4), .val (.int p5), .val (.int v1), .val (.int (0 : Int32)), .val (.int r3), .val (.int v4), .val (.int v5), .val (.int v6), .val (.int v7), .val (.ref b8), .val (.ref b9)] [(.ref b9)])
      refine Goes.go (fun _ => XS.iconst S.here B.x rfl (B.d at_204)) ?_
      show Goes _ _ _ _ T (mkF me_ 205 #[.val (.int p0), .val (.int p1), .val (.int p2), .val (.int p3), .val (.int p4), .val (.int p5), .val (.int v1), .val (.int (0 : Int32)), .val (.int r3), .val (.int v4), .val (.int v5), .val (.int v6), .val (.int v7), .val (.ref b8), .val (.ref b9)] [(.int (0 : Int32)), (.ref b9)])
      refine Goes.go (fun _ => XS.iload S.here B.x rfl (B.d at_205) rfl) ?_
      show Goes _ _ _ _ T (mkF me_ 207 #[.val (.int p0), .val (.int p1), .val (.int p2), .val (.int p3), .val (.int p4), .val (.int p5), .val (.int v1), .val (.int (0 : Int32)), .val (.int r3), .val (.int v4), .val (.int v5), .val (.int v6), .val (.int v7), .val (.ref b8), .val (.ref b9)] [(.int (0 : Int32)), (.int (0 : Int32)), (.ref b9)])
      refine Goes.go (fun _ => XS.iload S.here B.x rfl (B.d at_207) rfl) ?_
      show Goes _ _ _ _ T (mkF me_ 209 #[.val (.int p0), .val (.int p1), .val (.int p2), .val (.int p3), .val (.int p4), .val (.int p5), .val (.int v1), .val (.int (0 : Int32)), .val (.int r3), .val (.int v4), .val (.int v5), .val (.int v6), .val (.int v7), .val (.ref b8), .val (.ref b9)] [(.int v4), (.int (0 : Int32)), (.int (0 : Int32)), (.ref b9)])
      refine Goes.go (fun _ => XS.iload S.here B.x rfl (B.d at_209) rfl) ?_
      show Goes _ _ _ _ T (mkF me_ 211 #[.val (.int p0), .val (.int p1), .val (.int p2), .val (.int p3), .val (.int p4), .val (.int p5), .val (.int v1), .val (.int (0 : Int32)), .val (.int r3), .val (.int v4), .val (.int v5), .val (.int v6), .val (.int v7), .val (.ref b8), .val (.ref b9)] [(.int v5), (.int v4), (.int (0 : Int32)), (.int (0 : Int32)), (.ref b9)])
      refine Goes.go (fun _ => XS.iload S.here B.x rfl (B.d at_211) rfl) ?_
      show Goes _ _ _ _ T (mkF me_ 213 #[.val (.int p0), .val (.int p1), .val (.int p2), .val (.int p3), .val (.int p4), .val (.int p5), .val (.int v1), .val (.int (0 : Int32)), .val (.int r3), .val (.int v4), .val (.int v5), .val (.int v6), .val (.int v7), .val (.ref b8), .val (.ref b9)] [(.int v6), (.int v5), (.int v4), (.int (0 : Int32)), (.int (0 : Int32)), (.ref b9)])
      refine Goes.go (fun _ => XS.iload S.here B.x rfl (B.d at_213) rfl) ?_
      show Goes _ _ _ _ T (mkF me_ 215 #[.val (.int p0), .val (.int p1), .val (.int p2), .val (.int p3), .val (.int p4), .val (.int p5), .val (.int v1), .val (.int (0 : Int32)), .val (.int r3), .val (.int v4), .val (.int v5), .val (.int v6), .val (.int v7), .val (.ref b8), .val (.ref b9)] [(.int v7), (.int v6), (.int v5), (.int v4), (.int (0 : Int32)), (.int (0 : Int32)), (.ref b9)])
      refine Goes.callS (argsL := [(.ref b9), (.int (0 : Int32)), (.int (0 : Int32)), (.int v4), (.int v5), (.int v6), (.int v7)]) (rest := []) (W := 0) S B (rm_ok l Z aw hw b9 (0 : Int32) (0 : Int32) v4 v5 v6 v7 (v1 + (1 : Int32)).toNatClampNeg u10 _ n0 A_b9 (by decide) (own_hN hrg 0)) (w10 hw) (w11 hw) (w12 hw) (w13 hw) (by decide) (by decide) (by decide) (by decide) (by decide) rfl (lenOf pd_3 rfl) rfl (Nat.le_of_eq rfl) at_215 ?_
      intro v T h S hQ
      obtain ⟨rfl, hh⟩ := hQ
      replace hh := hh.symm
      subst hh
      show Goes _ _ _ _ T (mkF me_ 218 #[.val (.int p0), .val (.int p1), .val (.int p2), .val (.int p3), .val (.int p4), .val (.int p5), .val (.int v1), .val (.int (0 : Int32)), .val (.int r3), .val (.int v4), .val (.int v5), .val (.int v6), .val (.int v7), .val (.ref b8), .val (.ref b9)] [(.int (bi ((0 : Int32) < (v1 + (1 : Int32)).toNatClampNeg.toInt32 → u10 (0 : Int32).toNatClampNeg = own_below (0 : Int32) (0 : Int32) v4 v5 v6 v7)))])
      refine Goes.go (fun _ => XS.ifNo S.here B.x rfl (B.d at_218) rfl ((if0 _ _).trans (feq (bi_ne (show (0 : Int32) < (v1 + (1 : Int32)).toNatClampNeg.toInt32 → u10 (0 : Int32).toNatClampNeg = own_below (0 : Int32) (0 : Int32) v4 v5 v6 v7 from fun q => (own_fin hrg hkk hf3_185 0 (by decide) q).trans (own_bel0 _ v4 v5 v6 v7)))).1)) ?_
      show Goes _ _ _ _ T (mkF me_ 221 #[.val (.int p0), .val (.int p1), .val (.int p2), .val (.int p3), .val (.int p4), .val (.int p5), .val (.int v1), .val (.int (0 : Int32)), .val (.int r3), .val (.int v4), .val (.int v5), .val (.int v6), .val (.int v7), .val (.ref b8), .val (.ref b9)] [])
      refine Goes.go (fun _ => XS.aload S.here B.x rfl (B.d at_221) rfl rfl) ?_
      show Goes _ _ _ _ T (mkF me_ 223 #[.val (.int p0), .val (.int p1), .val (.int p2), .val (.int p3), .val (.int p4), .val (.int p5), .val (.int v1), .val (.int (0 : Int32)), .val (.int r3), .val (.int v4), .val (.int v5), .val (.int v6), .val (.int v7), .val (.ref b8), .val (.ref b9)] [(.ref b9)])
      refine Goes.go (fun _ => XS.iconst S.here B.x rfl (B.d at_223)) ?_
      show Goes _ _ _ _ T (mkF me_ 224 #[.val (.int p0), .val (.int p1), .val (.int p2), .val (.int p3), .val (.int p4), .val (.int p5), .val (.int v1), .val (.int (0 : Int32)), .val (.int r3), .val (.int v4), .val (.int v5), .val (.int v6), .val (.int v7), .val (.ref b8), .val (.ref b9)] [(.int (1 : Int32)), (.ref b9)])
      refine Goes.go (fun _ => XS.iload S.here B.x rfl (B.d at_224) rfl) ?_
      show Goes _ _ _ _ T (mkF me_ 226 #[.val (.int p0), .val (.int p1), .val (.int p2), .val (.int p3), .val (.int p4), .val (.int p5), .val (.int v1), .val (.int (0 : Int32)), .val (.int r3), .val (.int v4), .val (.int v5), .val (.int v6), .val (.int v7), .val (.ref b8), .val (.ref b9)] [(.int (0 : Int32)), (.int (1 : Int32)), (.ref b9)])
      refine Goes.go (fun _ => XS.iload S.here B.x rfl (B.d at_226) rfl) ?_
      show Goes _ _ _ _ T (mkF me_ 228 #[.val (.int p0), .val (.int p1), .val (.int p2), .val (.int p3), .val (.int p4), .val (.int p5), .val (.int v1), .val (.int (0 : Int32)), .val (.int r3), .val (.int v4), .val (.int v5), .val (.int v6), .val (.int v7), .val (.ref b8), .val (.ref b9)] [(.int v4), (.int (0 : Int32)), (.int (1 : Int32)), (.ref b9)])
      refine Goes.go (fun _ => XS.iload S.here B.x rfl (B.d at_228) rfl) ?_
      show Goes _ _ _ _ T (mkF me_ 230 #[.val (.int p0), .val (.int p1), .val (.int p2), .val (.int p3), .val (.int p4), .val (.int p5), .val (.int v1), .val (.int (0 : Int32)), .val (.int r3), .val (.int v4), .val (.int v5), .val (.int v6), .val (.int v7), .val (.ref b8), .val (.ref b9)] [(.int v5), (.int v4), (.int (0 : Int32)), (.int (1 : Int32)), (.ref b9)])
      refine Goes.go (fun _ => XS.iload S.here B.x rfl (B.d at_230) rfl) ?_
      show Goes _ _ _ _ T (mkF me_ 232 #[.val (.int p0), .val (.int p1), .val (.int p2), .val (.int p3), .val (.int p4), .val (.int p5), .val (.int v1), .val (.int (0 : Int32)), .val (.int r3), .val (.int v4), .val (.int v5), .val (.int v6), .val (.int v7), .val (.ref b8), .val (.ref b9)] [(.int v6), (.int v5), (.int v4), (.int (0 : Int32)), (.int (1 : Int32)), (.ref b9)])
      refine Goes.go (fun _ => XS.iload S.here B.x rfl (B.d at_232) rfl) ?_
      show Goes _ _ _ _ T (mkF me_ 234 #[.val (.int p0), .val (.int p1), .val (.int p2), .val (.int p3), .val (.int p4), .val (.int p5), .val (.int v1), .val (.int (0 : Int32)), .val (.int r3), .val (.int v4), .val (.int v5), .val (.int v6), .val (.int v7), .val (.ref b8), .val (.ref b9)] [(.int v7), (.int v6), (.int v5), (.int v4), (.int (0 : Int32)), (.int (1 : Int32)), (.ref b9)])
      refine Goes.callS (argsL := [(.ref b9), (.int (1 : Int32)), (.int (0 : Int32)), (.int v4), (.int v5), (.int v6), (.int v7)]) (rest := []) (W := 0) S B (rm_ok l Z aw hw b9 (1 : Int32) (0 : Int32) v4 v5 v6 v7 (v1 + (1 : Int32)).toNatClampNeg u10 _ n0 A_b9 (by decide) (own_hN hrg 1)) (w10 hw) (w11 hw) (w12 hw) (w13 hw) (by decide) (by decide) (by decide) (by decide) (by decide) rfl (lenOf pd_3 rfl) rfl (Nat.le_of_eq rfl) at_234 ?_
      intro v T h S hQ
      obtain ⟨rfl, hh⟩ := hQ
      replace hh := hh.symm
      subst hh
      show Goes _ _ _ _ T (mkF me_ 237 #[.val (.int p0), .val (.int p1), .val (.int p2), .val (.int p3), .val (.int p4), .val (.int p5), .val (.int v1), .val (.int (0 : Int32)), .val (.int r3), .val (.int v4), .val (.int v5), .val (.int v6), .val (.int v7), .val (.ref b8), .val (.ref b9)] [(.int (bi ((1 : Int32) < (v1 + (1 : Int32)).toNatClampNeg.toInt32 → u10 (1 : Int32).toNatClampNeg = own_below (1 : Int32) (0 : Int32) v4 v5 v6 v7)))])
      refine Goes.go (fun _ => XS.ifNo S.here B.x rfl (B.d at_237) rfl ((if0 _ _).trans (feq (bi_ne (show (1 : Int32) < (v1 + (1 : Int32)).toNatClampNeg.toInt32 → u10 (1 : Int32).toNatClampNeg = own_below (1 : Int32) (0 : Int32) v4 v5 v6 v7 from fun q => (own_fin hrg hkk hf3_185 1 (by decide) q).trans (own_bel0 _ v4 v5 v6 v7)))).1)) ?_
      show Goes _ _ _ _ T (mkF me_ 240 #[.val (.int p0), .val (.int p1), .val (.int p2), .val (.int p3), .val (.int p4), .val (.int p5), .val (.int v1), .val (.int (0 : Int32)), .val (.int r3), .val (.int v4), .val (.int v5), .val (.int v6), .val (.int v7), .val (.ref b8), .val (.ref b9)] [])
      refine Goes.go (fun _ => XS.aload S.here B.x rfl (B.d at_240) rfl rfl) ?_
      show Goes _ _ _ _ T (mkF me_ 242 #[.val (.int p0), .val (.int p1), .val (.int p2), .val (.int p3), .val (.int p4), .val (.int p5), .val (.int v1), .val (.int (0 : Int32)), .val (.int r3), .val (.int v4), .val (.int v5), .val (.int v6), .val (.int v7), .val (.ref b8), .val (.ref b9)] [(.ref b9)])
      refine Goes.go (fun _ => XS.iconst S.here B.x rfl (B.d at_242)) ?_
      show Goes _ _ _ _ T (mkF me_ 243 #[.val (.int p0), .val (.int p1), .val (.int p2), .val (.int p3), .val (.int p4), .val (.int p5), .val (.int v1), .val (.int (0 : Int32)), .val (.int r3), .val (.int v4), .val (.int v5), .val (.int v6), .val (.int v7), .val (.ref b8), .val (.ref b9)] [(.int (2 : Int32)), (.ref b9)])
      refine Goes.go (fun _ => XS.iload S.here B.x rfl (B.d at_243) rfl) ?_
      show Goes _ _ _ _ T (mkF me_ 245 #[.val (.int p0), .val (.int p1), .val (.int p2), .val (.int p3), .val (.int p4), .val (.int p5), .val (.int v1), .val (.int (0 : Int32)), .val (.int r3), .val (.int v4), .val (.int v5), .val (.int v6), .val (.int v7), .val (.ref b8), .val (.ref b9)] [(.int (0 : Int32)), (.int (2 : Int32)), (.ref b9)])
      refine Goes.go (fun _ => XS.iload S.here B.x rfl (B.d at_245) rfl) ?_
      show Goes _ _ _ _ T (mkF me_ 247 #[.val (.int p0), .val (.int p1), .val (.int p2), .val (.int p3), .val (.int p4), .val (.int p5), .val (.int v1), .val (.int (0 : Int32)), .val (.int r3), .val (.int v4), .val (.int v5), .val (.int v6), .val (.int v7), .val (.ref b8), .val (.ref b9)] [(.int v4), (.int (0 : Int32)), (.int (2 : Int32)), (.ref b9)])
      refine Goes.go (fun _ => XS.iload S.here B.x rfl (B.d at_247) rfl) ?_
      show Goes _ _ _ _ T (mkF me_ 249 #[.val (.int p0), .val (.int p1), .val (.int p2), .val (.int p3), .val (.int p4), .val (.int p5), .val (.int v1), .val (.int (0 : Int32)), .val (.int r3), .val (.int v4), .val (.int v5), .val (.int v6), .val (.int v7), .val (.ref b8), .val (.ref b9)] [(.int v5), (.int v4), (.int (0 : Int32)), (.int (2 : Int32)), (.ref b9)])
      refine Goes.go (fun _ => XS.iload S.here B.x rfl (B.d at_249) rfl) ?_
      show Goes _ _ _ _ T (mkF me_ 251 #[.val (.int p0), .val (.int p1), .val (.int p2), .val (.int p3), .val (.int p4), .val (.int p5), .val (.int v1), .val (.int (0 : Int32)), .val (.int r3), .val (.int v4), .val (.int v5), .val (.int v6), .val (.int v7), .val (.ref b8), .val (.ref b9)] [(.int v6), (.int v5), (.int v4), (.int (0 : Int32)), (.int (2 : Int32)), (.ref b9)])
      refine Goes.go (fun _ => XS.iload S.here B.x rfl (B.d at_251) rfl) ?_
      show Goes _ _ _ _ T (mkF me_ 253 #[.val (.int p0), .val (.int p1), .val (.int p2), .val (.int p3), .val (.int p4), .val (.int p5), .val (.int v1), .val (.int (0 : Int32)), .val (.int r3), .val (.int v4), .val (.int v5), .val (.int v6), .val (.int v7), .val (.ref b8), .val (.ref b9)] [(.int v7), (.int v6), (.int v5), (.int v4), (.int (0 : Int32)), (.int (2 : Int32)), (.ref b9)])
      refine Goes.callS (argsL := [(.ref b9), (.int (2 : Int32)), (.int (0 : Int32)), (.int v4), (.int v5), (.int v6), (.int v7)]) (rest := []) (W := 0) S B (rm_ok l Z aw hw b9 (2 : Int32) (0 : Int32) v4 v5 v6 v7 (v1 + (1 : Int32)).toNatClampNeg u10 _ n0 A_b9 (by decide) (own_hN hrg 2)) (w10 hw) (w11 hw) (w12 hw) (w13 hw) (by decide) (by decide) (by decide) (by decide) (by decide) rfl (lenOf pd_3 rfl) rfl (Nat.le_of_eq rfl) at_253 ?_
      intro v T h S hQ
      obtain ⟨rfl, hh⟩ := hQ
      replace hh := hh.symm
      subst hh
      show Goes _ _ _ _ T (mkF me_ 256 #[.val (.int p0), .val (.int p1), .val (.int p2), .val (.int p3), .val (.int p4), .val (.int p5), .val (.int v1), .val (.int (0 : Int32)), .val (.int r3), .val (.int v4), .val (.int v5), .val (.int v6), .val (.int v7), .val (.ref b8), .val (.ref b9)] [(.int (bi ((2 : Int32) < (v1 + (1 : Int32)).toNatClampNeg.toInt32 → u10 (2 : Int32).toNatClampNeg = own_below (2 : Int32) (0 : Int32) v4 v5 v6 v7)))])
      refine Goes.go (fun _ => XS.ifNo S.here B.x rfl (B.d at_256) rfl ((if0 _ _).trans (feq (bi_ne (show (2 : Int32) < (v1 + (1 : Int32)).toNatClampNeg.toInt32 → u10 (2 : Int32).toNatClampNeg = own_below (2 : Int32) (0 : Int32) v4 v5 v6 v7 from fun q => (own_fin hrg hkk hf3_185 2 (by decide) q).trans (own_bel0 _ v4 v5 v6 v7)))).1)) ?_
      show Goes _ _ _ _ T (mkF me_ 259 #[.val (.int p0), .val (.int p1), .val (.int p2), .val (.int p3), .val (.int p4), .val (.int p5), .val (.int v1), .val (.int (0 : Int32)), .val (.int r3), .val (.int v4), .val (.int v5), .val (.int v6), .val (.int v7), .val (.ref b8), .val (.ref b9)] [])
      refine Goes.go (fun _ => XS.aload S.here B.x rfl (B.d at_259) rfl rfl) ?_
      show Goes _ _ _ _ T (mkF me_ 261 #[.val (.int p0), .val (.int p1), .val (.int p2), .val (.int p3), .val (.int p4), .val (.int p5), .val (.int v1), .val (.int (0 : Int32)), .val (.int r3), .val (.int v4), .val (.int v5), .val (.int v6), .val (.int v7), .val (.ref b8), .val (.ref b9)] [(.ref b9)])
      refine Goes.go (fun _ => XS.iconst S.here B.x rfl (B.d at_261)) ?_
      show Goes _ _ _ _ T (mkF me_ 262 #[.val (.int p0), .val (.int p1), .val (.int p2), .val (.int p3), .val (.int p4), .val (.int p5), .val (.int v1), .val (.int (0 : Int32)), .val (.int r3), .val (.int v4), .val (.int v5), .val (.int v6), .val (.int v7), .val (.ref b8), .val (.ref b9)] [(.int (3 : Int32)), (.ref b9)])
      refine Goes.go (fun _ => XS.iload S.here B.x rfl (B.d at_262) rfl) ?_
      show Goes _ _ _ _ T (mkF me_ 264 #[.val (.int p0), .val (.int p1), .val (.int p2), .val (.int p3), .val (.int p4), .val (.int p5), .val (.int v1), .val (.int (0 : Int32)), .val (.int r3), .val (.int v4), .val (.int v5), .val (.int v6), .val (.int v7), .val (.ref b8), .val (.ref b9)] [(.int (0 : Int32)), (.int (3 : Int32)), (.ref b9)])
      refine Goes.go (fun _ => XS.iload S.here B.x rfl (B.d at_264) rfl) ?_
      show Goes _ _ _ _ T (mkF me_ 266 #[.val (.int p0), .val (.int p1), .val (.int p2), .val (.int p3), .val (.int p4), .val (.int p5), .val (.int v1), .val (.int (0 : Int32)), .val (.int r3), .val (.int v4), .val (.int v5), .val (.int v6), .val (.int v7), .val (.ref b8), .val (.ref b9)] [(.int v4), (.int (0 : Int32)), (.int (3 : Int32)), (.ref b9)])
      refine Goes.go (fun _ => XS.iload S.here B.x rfl (B.d at_266) rfl) ?_
      show Goes _ _ _ _ T (mkF me_ 268 #[.val (.int p0), .val (.int p1), .val (.int p2), .val (.int p3), .val (.int p4), .val (.int p5), .val (.int v1), .val (.int (0 : Int32)), .val (.int r3), .val (.int v4), .val (.int v5), .val (.int v6), .val (.int v7), .val (.ref b8), .val (.ref b9)] [(.int v5), (.int v4), (.int (0 : Int32)), (.int (3 : Int32)), (.ref b9)])
      refine Goes.go (fun _ => XS.iload S.here B.x rfl (B.d at_268) rfl) ?_
      show Goes _ _ _ _ T (mkF me_ 270 #[.val (.int p0), .val (.int p1), .val (.int p2), .val (.int p3), .val (.int p4), .val (.int p5), .val (.int v1), .val (.int (0 : Int32)), .val (.int r3), .val (.int v4), .val (.int v5), .val (.int v6), .val (.int v7), .val (.ref b8), .val (.ref b9)] [(.int v6), (.int v5), (.int v4), (.int (0 : Int32)), (.int (3 : Int32)), (.ref b9)])
      refine Goes.go (fun _ => XS.iload S.here B.x rfl (B.d at_270) rfl) ?_
      show Goes _ _ _ _ T (mkF me_ 272 #[.val (.int p0), .val (.int p1), .val (.int p2), .val (.int p3), .val (.int p4), .val (.int p5), .val (.int v1), .val (.int (0 : Int32)), .val (.int r3), .val (.int v4), .val (.int v5), .val (.int v6), .val (.int v7), .val (.ref b8), .val (.ref b9)] [(.int v7), (.int v6), (.int v5), (.int v4), (.int (0 : Int32)), (.int (3 : Int32)), (.ref b9)])
      refine Goes.callS (argsL := [(.ref b9), (.int (3 : Int32)), (.int (0 : Int32)), (.int v4), (.int v5), (.int v6), (.int v7)]) (rest := []) (W := 0) S B (rm_ok l Z aw hw b9 (3 : Int32) (0 : Int32) v4 v5 v6 v7 (v1 + (1 : Int32)).toNatClampNeg u10 _ n0 A_b9 (by decide) (own_hN hrg 3)) (w10 hw) (w11 hw) (w12 hw) (w13 hw) (by decide) (by decide) (by decide) (by decide) (by decide) rfl (lenOf pd_3 rfl) rfl (Nat.le_of_eq rfl) at_272 ?_
      intro v T h S hQ
      obtain ⟨rfl, hh⟩ := hQ
      replace hh := hh.symm
      subst hh
      show Goes _ _ _ _ T (mkF me_ 275 #[.val (.int p0), .val (.int p1), .val (.int p2), .val (.int p3), .val (.int p4), .val (.int p5), .val (.int v1), .val (.int (0 : Int32)), .val (.int r3), .val (.int v4), .val (.int v5), .val (.int v6), .val (.int v7), .val (.ref b8), .val (.ref b9)] [(.int (bi ((3 : Int32) < (v1 + (1 : Int32)).toNatClampNeg.toInt32 → u10 (3 : Int32).toNatClampNeg = own_below (3 : Int32) (0 : Int32) v4 v5 v6 v7)))])
      refine Goes.go (fun _ => XS.ifNo S.here B.x rfl (B.d at_275) rfl ((if0 _ _).trans (feq (bi_ne (show (3 : Int32) < (v1 + (1 : Int32)).toNatClampNeg.toInt32 → u10 (3 : Int32).toNatClampNeg = own_below (3 : Int32) (0 : Int32) v4 v5 v6 v7 from fun q => (own_fin hrg hkk hf3_185 3 (by decide) q).trans (own_bel0 _ v4 v5 v6 v7)))).1)) ?_
      show Goes _ _ _ _ T (mkF me_ 278 #[.val (.int p0), .val (.int p1), .val (.int p2), .val (.int p3), .val (.int p4), .val (.int p5), .val (.int v1), .val (.int (0 : Int32)), .val (.int r3), .val (.int v4), .val (.int v5), .val (.int v6), .val (.int v7), .val (.ref b8), .val (.ref b9)] [])
      refine Goes.go (fun _ => XS.aload S.here B.x rfl (B.d at_278) rfl rfl) ?_
      show Goes _ _ _ _ T (mkF me_ 280 #[.val (.int p0), .val (.int p1), .val (.int p2), .val (.int p3), .val (.int p4), .val (.int p5), .val (.int v1), .val (.int (0 : Int32)), .val (.int r3), .val (.int v4), .val (.int v5), .val (.int v6), .val (.int v7), .val (.ref b8), .val (.ref b9)] [(.ref b9)])
      refine Goes.go (fun _ => XS.iconst S.here B.x rfl (B.d at_280)) ?_
      show Goes _ _ _ _ T (mkF me_ 281 #[.val (.int p0), .val (.int p1), .val (.int p2), .val (.int p3), .val (.int p4), .val (.int p5), .val (.int v1), .val (.int (0 : Int32)), .val (.int r3), .val (.int v4), .val (.int v5), .val (.int v6), .val (.int v7), .val (.ref b8), .val (.ref b9)] [(.int (4 : Int32)), (.ref b9)])
      refine Goes.go (fun _ => XS.iload S.here B.x rfl (B.d at_281) rfl) ?_
      show Goes _ _ _ _ T (mkF me_ 283 #[.val (.int p0), .val (.int p1), .val (.int p2), .val (.int p3), .val (.int p4), .val (.int p5), .val (.int v1), .val (.int (0 : Int32)), .val (.int r3), .val (.int v4), .val (.int v5), .val (.int v6), .val (.int v7), .val (.ref b8), .val (.ref b9)] [(.int (0 : Int32)), (.int (4 : Int32)), (.ref b9)])
      refine Goes.go (fun _ => XS.iload S.here B.x rfl (B.d at_283) rfl) ?_
      show Goes _ _ _ _ T (mkF me_ 285 #[.val (.int p0), .val (.int p1), .val (.int p2), .val (.int p3), .val (.int p4), .val (.int p5), .val (.int v1), .val (.int (0 : Int32)), .val (.int r3), .val (.int v4), .val (.int v5), .val (.int v6), .val (.int v7), .val (.ref b8), .val (.ref b9)] [(.int v4), (.int (0 : Int32)), (.int (4 : Int32)), (.ref b9)])
      refine Goes.go (fun _ => XS.iload S.here B.x rfl (B.d at_285) rfl) ?_
      show Goes _ _ _ _ T (mkF me_ 287 #[.val (.int p0), .val (.int p1), .val (.int p2), .val (.int p3), .val (.int p4), .val (.int p5), .val (.int v1), .val (.int (0 : Int32)), .val (.int r3), .val (.int v4), .val (.int v5), .val (.int v6), .val (.int v7), .val (.ref b8), .val (.ref b9)] [(.int v5), (.int v4), (.int (0 : Int32)), (.int (4 : Int32)), (.ref b9)])
      refine Goes.go (fun _ => XS.iload S.here B.x rfl (B.d at_287) rfl) ?_
      show Goes _ _ _ _ T (mkF me_ 289 #[.val (.int p0), .val (.int p1), .val (.int p2), .val (.int p3), .val (.int p4), .val (.int p5), .val (.int v1), .val (.int (0 : Int32)), .val (.int r3), .val (.int v4), .val (.int v5), .val (.int v6), .val (.int v7), .val (.ref b8), .val (.ref b9)] [(.int v6), (.int v5), (.int v4), (.int (0 : Int32)), (.int (4 : Int32)), (.ref b9)])
      refine Goes.go (fun _ => XS.iload S.here B.x rfl (B.d at_289) rfl) ?_
      show Goes _ _ _ _ T (mkF me_ 291 #[.val (.int p0), .val (.int p1), .val (.int p2), .val (.int p3), .val (.int p4), .val (.int p5), .val (.int v1), .val (.int (0 : Int32)), .val (.int r3), .val (.int v4), .val (.int v5), .val (.int v6), .val (.int v7), .val (.ref b8), .val (.ref b9)] [(.int v7), (.int v6), (.int v5), (.int v4), (.int (0 : Int32)), (.int (4 : Int32)), (.ref b9)])
      refine Goes.callS (argsL := [(.ref b9), (.int (4 : Int32)), (.int (0 : Int32)), (.int v4), (.int v5), (.int v6), (.int v7)]) (rest := []) (W := 0) S B (rm_ok l Z aw hw b9 (4 : Int32) (0 : Int32) v4 v5 v6 v7 (v1 + (1 : Int32)).toNatClampNeg u10 _ n0 A_b9 (by decide) (own_hN hrg 4)) (w10 hw) (w11 hw) (w12 hw) (w13 hw) (by decide) (by decide) (by decide) (by decide) (by decide) rfl (lenOf pd_3 rfl) rfl (Nat.le_of_eq rfl) at_291 ?_
      intro v T h S hQ
      obtain ⟨rfl, hh⟩ := hQ
      replace hh := hh.symm
      subst hh
      show Goes _ _ _ _ T (mkF me_ 294 #[.val (.int p0), .val (.int p1), .val (.int p2), .val (.int p3), .val (.int p4), .val (.int p5), .val (.int v1), .val (.int (0 : Int32)), .val (.int r3), .val (.int v4), .val (.int v5), .val (.int v6), .val (.int v7), .val (.ref b8), .val (.ref b9)] [(.int (bi ((4 : Int32) < (v1 + (1 : Int32)).toNatClampNeg.toInt32 → u10 (4 : Int32).toNatClampNeg = own_below (4 : Int32) (0 : Int32) v4 v5 v6 v7)))])
      refine Goes.go (fun _ => XS.ifNo S.here B.x rfl (B.d at_294) rfl ((if0 _ _).trans (feq (bi_ne (show (4 : Int32) < (v1 + (1 : Int32)).toNatClampNeg.toInt32 → u10 (4 : Int32).toNatClampNeg = own_below (4 : Int32) (0 : Int32) v4 v5 v6 v7 from fun q => (own_fin hrg hkk hf3_185 4 (by decide) q).trans (own_bel0 _ v4 v5 v6 v7)))).1)) ?_
      show Goes _ _ _ _ T (mkF me_ 297 #[.val (.int p0), .val (.int p1), .val (.int p2), .val (.int p3), .val (.int p4), .val (.int p5), .val (.int v1), .val (.int (0 : Int32)), .val (.int r3), .val (.int v4), .val (.int v5), .val (.int v6), .val (.int v7), .val (.ref b8), .val (.ref b9)] [])
      refine Goes.go (fun _ => XS.iconst S.here B.x rfl (B.d at_297)) ?_
      show Goes _ _ _ _ T (mkF me_ 298 #[.val (.int p0), .val (.int p1), .val (.int p2), .val (.int p3), .val (.int p4), .val (.int p5), .val (.int v1), .val (.int (0 : Int32)), .val (.int r3), .val (.int v4), .val (.int v5), .val (.int v6), .val (.int v7), .val (.ref b8), .val (.ref b9)] [(.int (1 : Int32))])
      refine Goes.go (fun _ => XS.goto S.here B.x rfl (pc0 := 298) (pc' := 302) rfl (B.d at_298) (by decide) (by decide)) ?_
      show Goes _ _ _ _ T (mkF me_ 302 #[.val (.int p0), .val (.int p1), .val (.int p2), .val (.int p3), .val (.int p4), .val (.int p5), .val (.int v1), .val (.int (0 : Int32)), .val (.int r3), .val (.int v4), .val (.int v5), .val (.int v6), .val (.int v7), .val (.ref b8), .val (.ref b9)] [(.int (1 : Int32))])
      refine Goes.retN S B (by simp) at_302 (by decide) (by decide) ?_
      exact rfl
    · skip
      show Goes _ _ _ _ T (mkF me_ 71 #[.val (.int p0), .val (.int p1), .val (.int p2), .val (.int p3), .val (.int p4), .val (.int p5), .val (.int v1), .val (.int (1 : Int32)), .val (.int r3), .val (.int v4), .val (.int v5), .val (.int v6), .val (.int v7), .unset, .unset] [])
      refine Goes.go (fun _ => XS.iload S.here B.x rfl (B.d at_71) rfl) ?_
      show Goes _ _ _ _ T (mkF me_ 73 #[.val (.int p0), .val (.int p1), .val (.int p2), .val (.int p3), .val (.int p4), .val (.int p5), .val (.int v1), .val (.int (1 : Int32)), .val (.int r3), .val (.int v4), .val (.int v5), .val (.int v6), .val (.int v7), .unset, .unset] [(.int (1 : Int32))])
      refine Goes.go (fun _ => XS.ifYes S.here B.x rfl (pc0 := 73) (pc' := 84) rfl (B.d at_73) rfl (by decide) (by decide) (by decide)) ?_
      show Goes _ _ _ _ T (mkF me_ 84 #[.val (.int p0), .val (.int p1), .val (.int p2), .val (.int p3), .val (.int p4), .val (.int p5), .val (.int v1), .val (.int (1 : Int32)), .val (.int r3), .val (.int v4), .val (.int v5), .val (.int v6), .val (.int v7), .unset, .unset] [])
      refine Goes.go (fun _ => XS.iload S.here B.x rfl (B.d at_84) rfl) ?_
      show Goes _ _ _ _ T (mkF me_ 86 #[.val (.int p0), .val (.int p1), .val (.int p2), .val (.int p3), .val (.int p4), .val (.int p5), .val (.int v1), .val (.int (1 : Int32)), .val (.int r3), .val (.int v4), .val (.int v5), .val (.int v6), .val (.int v7), .unset, .unset] [(.int (1 : Int32))])
      refine Goes.go (fun _ => XS.iconst S.here B.x rfl (B.d at_86)) ?_
      show Goes _ _ _ _ T (mkF me_ 87 #[.val (.int p0), .val (.int p1), .val (.int p2), .val (.int p3), .val (.int p4), .val (.int p5), .val (.int v1), .val (.int (1 : Int32)), .val (.int r3), .val (.int v4), .val (.int v5), .val (.int v6), .val (.int v7), .unset, .unset] [(.int (1 : Int32)), (.int (1 : Int32))])
      refine Goes.go (fun _ => XS.icmpNo S.here B.x rfl (B.d at_87) rfl (by decide)) ?_
      show Goes _ _ _ _ T (mkF me_ 90 #[.val (.int p0), .val (.int p1), .val (.int p2), .val (.int p3), .val (.int p4), .val (.int p5), .val (.int v1), .val (.int (1 : Int32)), .val (.int r3), .val (.int v4), .val (.int v5), .val (.int v6), .val (.int v7), .unset, .unset] [])
      refine Goes.go (fun _ => XS.iconst S.here B.x rfl (B.d at_90)) ?_
      show Goes _ _ _ _ T (mkF me_ 91 #[.val (.int p0), .val (.int p1), .val (.int p2), .val (.int p3), .val (.int p4), .val (.int p5), .val (.int v1), .val (.int (1 : Int32)), .val (.int r3), .val (.int v4), .val (.int v5), .val (.int v6), .val (.int v7), .unset, .unset] [(.int (1 : Int32))])
      refine Goes.newP (aty := .int) (cap := 1) S B (w5 hw) at_91 (by decide) (by decide) (by decide) (by decide) (by decide) ?_
      intro T h b11 S X zb g_b11 A_b11
      replace A_b11 : Ary Z h b11 .int 1 (fun i => (.int ((fun _ => 0) i))) := A_b11
      show Goes _ _ _ _ T (mkF me_ 93 #[.val (.int p0), .val (.int p1), .val (.int p2), .val (.int p3), .val (.int p4), .val (.int p5), .val (.int v1), .val (.int (1 : Int32)), .val (.int r3), .val (.int v4), .val (.int v5), .val (.int v6), .val (.int v7), .unset, .unset] [(.ref b11)])
      refine Goes.go (fun _ => XS.dup S.here B.x rfl (B.d at_93) rfl rfl) ?_
      show Goes _ _ _ _ T (mkF me_ 94 #[.val (.int p0), .val (.int p1), .val (.int p2), .val (.int p3), .val (.int p4), .val (.int p5), .val (.int v1), .val (.int (1 : Int32)), .val (.int r3), .val (.int v4), .val (.int v5), .val (.int v6), .val (.int v7), .unset, .unset] [(.ref b11), (.ref b11)])
      refine Goes.go (fun _ => XS.iconst S.here B.x rfl (B.d at_94)) ?_
      show Goes _ _ _ _ T (mkF me_ 95 #[.val (.int p0), .val (.int p1), .val (.int p2), .val (.int p3), .val (.int p4), .val (.int p5), .val (.int v1), .val (.int (1 : Int32)), .val (.int r3), .val (.int v4), .val (.int v5), .val (.int v6), .val (.int v7), .unset, .unset] [(.int (0 : Int32)), (.ref b11), (.ref b11)])
      refine Goes.go (fun _ => XS.iload S.here B.x rfl (B.d at_95) rfl) ?_
      show Goes _ _ _ _ T (mkF me_ 97 #[.val (.int p0), .val (.int p1), .val (.int p2), .val (.int p3), .val (.int p4), .val (.int p5), .val (.int v1), .val (.int (1 : Int32)), .val (.int r3), .val (.int v4), .val (.int v5), .val (.int v6), .val (.int v7), .unset, .unset] [(.int v4), (.int (0 : Int32)), (.ref b11), (.ref b11)])
      refine Goes.iastore S B A_b11 (by decide) (by decide) g_b11 at_97 ?_
      intro T h S W A_b11
      replace A_b11 : Ary Z h b11 .int 1 (aup (fun i => (.int ((fun _ => 0) i))) 0 (.int v4)) := A_b11
      rw [aup_int] at A_b11
      show Goes _ _ _ _ T (mkF me_ 98 #[.val (.int p0), .val (.int p1), .val (.int p2), .val (.int p3), .val (.int p4), .val (.int p5), .val (.int v1), .val (.int (1 : Int32)), .val (.int r3), .val (.int v4), .val (.int v5), .val (.int v6), .val (.int v7), .unset, .unset] [(.ref b11)])
      refine Goes.go (fun _ => XS.astore S.here B.x rfl (B.d at_98) rfl rfl (l' := #[.val (.int p0), .val (.int p1), .val (.int p2), .val (.int p3), .val (.int p4), .val (.int p5), .val (.int v1), .val (.int (1 : Int32)), .val (.int r3), .val (.int v4), .val (.int v5), .val (.int v6), .val (.int v7), .val (.ref b11), .unset]) rfl) ?_
      show Goes _ _ _ _ T (mkF me_ 100 #[.val (.int p0), .val (.int p1), .val (.int p2), .val (.int p3), .val (.int p4), .val (.int p5), .val (.int v1), .val (.int (1 : Int32)), .val (.int r3), .val (.int v4), .val (.int v5), .val (.int v6), .val (.int v7), .val (.ref b11), .unset] [])
      refine Goes.go (fun _ => XS.goto S.here B.x rfl (pc0 := 100) (pc' := 181) rfl (B.d at_100) (by decide) (by decide)) ?_
      show Goes _ _ _ _ T (mkF me_ 181 #[.val (.int p0), .val (.int p1), .val (.int p2), .val (.int p3), .val (.int p4), .val (.int p5), .val (.int v1), .val (.int (1 : Int32)), .val (.int r3), .val (.int v4), .val (.int v5), .val (.int v6), .val (.int v7), .val (.ref b11), .unset] [])
      refine Goes.go (fun _ => XS.aload S.here B.x rfl (B.d at_181) rfl rfl) ?_
      show Goes _ _ _ _ T (mkF me_ 183 #[.val (.int p0), .val (.int p1), .val (.int p2), .val (.int p3), .val (.int p4), .val (.int p5), .val (.int v1), .val (.int (1 : Int32)), .val (.int r3), .val (.int v4), .val (.int v5), .val (.int v6), .val (.int v7), .val (.ref b11), .unset] [(.ref b11)])
      refine Goes.go (fun _ => XS.iload S.here B.x rfl (B.d at_183) rfl) ?_
      show Goes _ _ _ _ T (mkF me_ 185 #[.val (.int p0), .val (.int p1), .val (.int p2), .val (.int p3), .val (.int p4), .val (.int p5), .val (.int v1), .val (.int (1 : Int32)), .val (.int r3), .val (.int v4), .val (.int v5), .val (.int v6), .val (.int v7), .val (.ref b11), .unset] [(.int v1), (.ref b11)])
      have zle := S.le
      refine Goes.callS (argsL := [(.ref b11), (.int v1)]) (rest := []) (W := 0) S B (rm_rs l Z aw hw b11 v1 1 (aup (fun _ => 0) 0 v4) _ n0 A_b11 hrg (by decide) (own_k1 (own_kr hrg (fun q => by have := hc7.2.2 q; revert this; decide) hr3 hv4))) (w6 hw) (w7 hw) (w8 hw) (w9 hw) (by decide) (by decide) (by decide) (by decide) (by decide) rfl (lenOf pd_2 rfl) rfl (Nat.le_of_eq rfl) at_185 ?_
      intro v T h S hQ
      obtain ⟨b12, u13, rfl, zb, Kc, A_b12', hf3_185⟩ := hQ
      have ne_b11__b12 : b11 ≠ b12 := Nat.ne_of_lt (Nat.lt_of_lt_of_le A_b11.lt zb)
      have g_b12 : n0 ≤ b12 := Nat.le_trans zle zb
      replace A_b11 := A_b11.keep Kc nin0
      have A_b12 := A_b12'
      show Goes _ _ _ _ T (mkF me_ 188 #[.val (.int p0), .val (.int p1), .val (.int p2), .val (.int p3), .val (.int p4), .val (.int p5), .val (.int v1), .val (.int (1 : Int32)), .val (.int r3), .val (.int v4), .val (.int v5), .val (.int v6), .val (.int v7), .val (.ref b11), .unset] [(.ref b12)])
      have hkk := (own_k1 (own_kr hrg (fun q => by have := hc7.2.2 q; revert this; decide) hr3 hv4))
      refine Goes.go (fun _ => XS.astore S.here B.x rfl (B.d at_188) rfl rfl (l' := #[.val (.int p0), .val (.int p1), .val (.int p2), .val (.int p3), .val (.int p4), .val (.int p5), .val (.int v1), .val (.int (1 : Int32)), .val (.int r3), .val (.int v4), .val (.int v5), .val (.int v6), .val (.int v7), .val (.ref b11), .val (.ref b12)]) rfl) ?_
      show Goes _ _ _ _ T (mkF me_ 190 #[.val (.int p0), .val (.int p1), .val (.int p2), .val (.int p3), .val (.int p4), .val (.int p5), .val (.int v1), .val (.int (1 : Int32)), .val (.int r3), .val (.int v4), .val (.int v5), .val (.int v6), .val (.int v7), .val (.ref b11), .val (.ref b12)] [])
      refine Goes.go (fun _ => XS.aload S.here B.x rfl (B.d at_190) rfl rfl) ?_
      show Goes _ _ _ _ T (mkF me_ 192 #[.val (.int p0), .val (.int p1), .val (.int p2), .val (.int p3), .val (.int p4), .val (.int p5), .val (.int v1), .val (.int (1 : Int32)), .val (.int r3), .val (.int v4), .val (.int v5), .val (.int v6), .val (.int v7), .val (.ref b11), .val (.ref b12)] [(.ref b12)])
      refine Goes.alen S B A_b12 (z := (v1 + (1 : Int32))) (back32 (own_np hrg).1).1 at_192 ?_
      show Goes _ _ _ _ T (mkF me_ 193 #[.val (.int p0), .val (.int p1), .val (.int p2), .val (.int p3), .val (.int p4), .val (.int p5), .val (.int v1), .val (.int (1 : Int32)), .val (.int r3), .val (.int v4), .val (.int v5), .val (.int v6), .val (.int v7), .val (.ref b11), .val (.ref b12)] [(.int (v1 + (1 : Int32)))])
      refine Goes.go (fun _ => XS.iload S.here B.x rfl (B.d at_193) rfl) ?_
      show Goes _ _ _ _ T (mkF me_ 195 #[.val (.int p0), .val (.int p1), .val (.int p2), .val (.int p3), .val (.int p4), .val (.int p5), .val (.int v1), .val (.int (1 : Int32)), .val (.int r3), .val (.int v4), .val (.int v5), .val (.int v6), .val (.int v7), .val (.ref b11), .val (.ref b12)] [(.int v1), (.int (v1 + (1 : Int32)))])
      refine Goes.go (fun _ => XS.iconst S.here B.x rfl (B.d at_195)) ?_
      show Goes _ _ _ _ T (mkF me_ 196 #[.val (.int p0), .val (.int p1), .val (.int p2), .val (.int p3), .val (.int p4), .val (.int p5), .val (.int v1), .val (.int (1 : Int32)), .val (.int r3), .val (.int v4), .val (.int v5), .val (.int v6), .val (.int v7), .val (.ref b11), .val (.ref b12)] [(.int (1 : Int32)), (.int v1), (.int (v1 + (1 : Int32)))])
      refine Goes.go (fun _ => XS.iadd S.here B.x rfl (B.d at_196) rfl) ?_
      show Goes _ _ _ _ T (mkF me_ 197 #[.val (.int p0), .val (.int p1), .val (.int p2), .val (.int p3), .val (.int p4), .val (.int p5), .val (.int v1), .val (.int (1 : Int32)), .val (.int r3), .val (.int v4), .val (.int v5), .val (.int v6), .val (.int v7), .val (.ref b11), .val (.ref b12)] [(.int (v1 + (1 : Int32))), (.int (v1 + (1 : Int32)))])
      refine Goes.go (fun _ => XS.icmpYes S.here B.x rfl (pc0 := 197) (pc' := 202) rfl (B.d at_197) rfl (teq (rfl : (v1 + (1 : Int32)) = (v1 + (1 : Int32)))).1 (by decide) (by decide)) ?_
      show Goes _ _ _ _ T (mkF me_ 202 #[.val (.int p0), .val (.int p1), .val (.int p2), .val (.int p3), .val (.int p4), .val (.int p5), .val (.int v1), .val (.int (1 : Int32)), .val (.int r3), .val (.int v4), .val (.int v5), .val (.int v6), .val (.int v7), .val (.ref b11), .val (.ref b12)] [])
      refine Goes.go (fun _ => XS.aload S.here B.x rfl (B.d at_202) rfl rfl) ?_
      show Goes _ _ _ _ T (mkF me_ 204 #[.val (.int p0), .val (.int p1), .val (.int p2), .val (.int p3), .val (.int p4), .val (.int p5), .val (.int v1), .val (.int (1 : Int32)), .val (.int r3), .val (.int v4), .val (.int v5), .val (.int v6), .val (.int v7), .val (.ref b11), .val (.ref b12)] [(.ref b12)])
      refine Goes.go (fun _ => XS.iconst S.here B.x rfl (B.d at_204)) ?_
      show Goes _ _ _ _ T (mkF me_ 205 #[.val (.int p0), .val (.int p1), .val (.int p2), .val (.int p3), .val (.int p4), .val (.int p5), .val (.int v1), .val (.int (1 : Int32)), .val (.int r3), .val (.int v4), .val (.int v5), .val (.int v6), .val (.int v7), .val (.ref b11), .val (.ref b12)] [(.int (0 : Int32)), (.ref b12)])
      refine Goes.go (fun _ => XS.iload S.here B.x rfl (B.d at_205) rfl) ?_
      show Goes _ _ _ _ T (mkF me_ 207 #[.val (.int p0), .val (.int p1), .val (.int p2), .val (.int p3), .val (.int p4), .val (.int p5), .val (.int v1), .val (.int (1 : Int32)), .val (.int r3), .val (.int v4), .val (.int v5), .val (.int v6), .val (.int v7), .val (.ref b11), .val (.ref b12)] [(.int (1 : Int32)), (.int (0 : Int32)), (.ref b12)])
      refine Goes.go (fun _ => XS.iload S.here B.x rfl (B.d at_207) rfl) ?_
      show Goes _ _ _ _ T (mkF me_ 209 #[.val (.int p0), .val (.int p1), .val (.int p2), .val (.int p3), .val (.int p4), .val (.int p5), .val (.int v1), .val (.int (1 : Int32)), .val (.int r3), .val (.int v4), .val (.int v5), .val (.int v6), .val (.int v7), .val (.ref b11), .val (.ref b12)] [(.int v4), (.int (1 : Int32)), (.int (0 : Int32)), (.ref b12)])
      refine Goes.go (fun _ => XS.iload S.here B.x rfl (B.d at_209) rfl) ?_
      show Goes _ _ _ _ T (mkF me_ 211 #[.val (.int p0), .val (.int p1), .val (.int p2), .val (.int p3), .val (.int p4), .val (.int p5), .val (.int v1), .val (.int (1 : Int32)), .val (.int r3), .val (.int v4), .val (.int v5), .val (.int v6), .val (.int v7), .val (.ref b11), .val (.ref b12)] [(.int v5), (.int v4), (.int (1 : Int32)), (.int (0 : Int32)), (.ref b12)])
      refine Goes.go (fun _ => XS.iload S.here B.x rfl (B.d at_211) rfl) ?_
      show Goes _ _ _ _ T (mkF me_ 213 #[.val (.int p0), .val (.int p1), .val (.int p2), .val (.int p3), .val (.int p4), .val (.int p5), .val (.int v1), .val (.int (1 : Int32)), .val (.int r3), .val (.int v4), .val (.int v5), .val (.int v6), .val (.int v7), .val (.ref b11), .val (.ref b12)] [(.int v6), (.int v5), (.int v4), (.int (1 : Int32)), (.int (0 : Int32)), (.ref b12)])
      refine Goes.go (fun _ => XS.iload S.here B.x rfl (B.d at_213) rfl) ?_
      show Goes _ _ _ _ T (mkF me_ 215 #[.val (.int p0), .val (.int p1), .val (.int p2), .val (.int p3), .val (.int p4), .val (.int p5), .val (.int v1), .val (.int (1 : Int32)), .val (.int r3), .val (.int v4), .val (.int v5), .val (.int v6), .val (.int v7), .val (.ref b11), .val (.ref b12)] [(.int v7), (.int v6), (.int v5), (.int v4), (.int (1 : Int32)), (.int (0 : Int32)), (.ref b12)])
      refine Goes.callS (argsL := [(.ref b12), (.int (0 : Int32)), (.int (1 : Int32)), (.int v4), (.int v5), (.int v6), (.int v7)]) (rest := []) (W := 0) S B (rm_ok l Z aw hw b12 (0 : Int32) (1 : Int32) v4 v5 v6 v7 (v1 + (1 : Int32)).toNatClampNeg u13 _ n0 A_b12 (by decide) (own_hN hrg 0)) (w10 hw) (w11 hw) (w12 hw) (w13 hw) (by decide) (by decide) (by decide) (by decide) (by decide) rfl (lenOf pd_3 rfl) rfl (Nat.le_of_eq rfl) at_215 ?_
      intro v T h S hQ
      obtain ⟨rfl, hh⟩ := hQ
      replace hh := hh.symm
      subst hh
      show Goes _ _ _ _ T (mkF me_ 218 #[.val (.int p0), .val (.int p1), .val (.int p2), .val (.int p3), .val (.int p4), .val (.int p5), .val (.int v1), .val (.int (1 : Int32)), .val (.int r3), .val (.int v4), .val (.int v5), .val (.int v6), .val (.int v7), .val (.ref b11), .val (.ref b12)] [(.int (bi ((0 : Int32) < (v1 + (1 : Int32)).toNatClampNeg.toInt32 → u13 (0 : Int32).toNatClampNeg = own_below (0 : Int32) (1 : Int32) v4 v5 v6 v7)))])
      refine Goes.go (fun _ => XS.ifNo S.here B.x rfl (B.d at_218) rfl ((if0 _ _).trans (feq (bi_ne (show (0 : Int32) < (v1 + (1 : Int32)).toNatClampNeg.toInt32 → u13 (0 : Int32).toNatClampNeg = own_below (0 : Int32) (1 : Int32) v4 v5 v6 v7 from fun q => (own_fin hrg hkk hf3_185 0 (by decide) q).trans (own_bel1 _ v4 v5 v6 v7)))).1)) ?_
      show Goes _ _ _ _ T (mkF me_ 221 #[.val (.int p0), .val (.int p1), .val (.int p2), .val (.int p3), .val (.int p4), .val (.int p5), .val (.int v1), .val (.int (1 : Int32)), .val (.int r3), .val (.int v4), .val (.int v5), .val (.int v6), .val (.int v7), .val (.ref b11), .val (.ref b12)] [])
      refine Goes.go (fun _ => XS.aload S.here B.x rfl (B.d at_221) rfl rfl) ?_
      show Goes _ _ _ _ T (mkF me_ 223 #[.val (.int p0), .val (.int p1), .val (.int p2), .val (.int p3), .val (.int p4), .val (.int p5), .val (.int v1), .val (.int (1 : Int32)), .val (.int r3), .val (.int v4), .val (.int v5), .val (.int v6), .val (.int v7), .val (.ref b11), .val (.ref b12)] [(.ref b12)])
      refine Goes.go (fun _ => XS.iconst S.here B.x rfl (B.d at_223)) ?_
      show Goes _ _ _ _ T (mkF me_ 224 #[.val (.int p0), .val (.int p1), .val (.int p2), .val (.int p3), .val (.int p4), .val (.int p5), .val (.int v1), .val (.int (1 : Int32)), .val (.int r3), .val (.int v4), .val (.int v5), .val (.int v6), .val (.int v7), .val (.ref b11), .val (.ref b12)] [(.int (1 : Int32)), (.ref b12)])
      refine Goes.go (fun _ => XS.iload S.here B.x rfl (B.d at_224) rfl) ?_
      show Goes _ _ _ _ T (mkF me_ 226 #[.val (.int p0), .val (.int p1), .val (.int p2), .val (.int p3), .val (.int p4), .val (.int p5), .val (.int v1), .val (.int (1 : Int32)), .val (.int r3), .val (.int v4), .val (.int v5), .val (.int v6), .val (.int v7), .val (.ref b11), .val (.ref b12)] [(.int (1 : Int32)), (.int (1 : Int32)), (.ref b12)])
      refine Goes.go (fun _ => XS.iload S.here B.x rfl (B.d at_226) rfl) ?_
      show Goes _ _ _ _ T (mkF me_ 228 #[.val (.int p0), .val (.int p1), .val (.int p2), .val (.int p3), .val (.int p4), .val (.int p5), .val (.int v1), .val (.int (1 : Int32)), .val (.int r3), .val (.int v4), .val (.int v5), .val (.int v6), .val (.int v7), .val (.ref b11), .val (.ref b12)] [(.int v4), (.int (1 : Int32)), (.int (1 : Int32)), (.ref b12)])
      refine Goes.go (fun _ => XS.iload S.here B.x rfl (B.d at_228) rfl) ?_
      show Goes _ _ _ _ T (mkF me_ 230 #[.val (.int p0), .val (.int p1), .val (.int p2), .val (.int p3), .val (.int p4), .val (.int p5), .val (.int v1), .val (.int (1 : Int32)), .val (.int r3), .val (.int v4), .val (.int v5), .val (.int v6), .val (.int v7), .val (.ref b11), .val (.ref b12)] [(.int v5), (.int v4), (.int (1 : Int32)), (.int (1 : Int32)), (.ref b12)])
      refine Goes.go (fun _ => XS.iload S.here B.x rfl (B.d at_230) rfl) ?_
      show Goes _ _ _ _ T (mkF me_ 232 #[.val (.int p0), .val (.int p1), .val (.int p2), .val (.int p3), .val (.int p4), .val (.int p5), .val (.int v1), .val (.int (1 : Int32)), .val (.int r3), .val (.int v4), .val (.int v5), .val (.int v6), .val (.int v7), .val (.ref b11), .val (.ref b12)] [(.int v6), (.int v5), (.int v4), (.int (1 : Int32)), (.int (1 : Int32)), (.ref b12)])
      refine Goes.go (fun _ => XS.iload S.here B.x rfl (B.d at_232) rfl) ?_
      show Goes _ _ _ _ T (mkF me_ 234 #[.val (.int p0), .val (.int p1), .val (.int p2), .val (.int p3), .val (.int p4), .val (.int p5), .val (.int v1), .val (.int (1 : Int32)), .val (.int r3), .val (.int v4), .val (.int v5), .val (.int v6), .val (.int v7), .val (.ref b11), .val (.ref b12)] [(.int v7), (.int v6), (.int v5), (.int v4), (.int (1 : Int32)), (.int (1 : Int32)), (.ref b12)])
      refine Goes.callS (argsL := [(.ref b12), (.int (1 : Int32)), (.int (1 : Int32)), (.int v4), (.int v5), (.int v6), (.int v7)]) (rest := []) (W := 0) S B (rm_ok l Z aw hw b12 (1 : Int32) (1 : Int32) v4 v5 v6 v7 (v1 + (1 : Int32)).toNatClampNeg u13 _ n0 A_b12 (by decide) (own_hN hrg 1)) (w10 hw) (w11 hw) (w12 hw) (w13 hw) (by decide) (by decide) (by decide) (by decide) (by decide) rfl (lenOf pd_3 rfl) rfl (Nat.le_of_eq rfl) at_234 ?_
      intro v T h S hQ
      obtain ⟨rfl, hh⟩ := hQ
      replace hh := hh.symm
      subst hh
      show Goes _ _ _ _ T (mkF me_ 237 #[.val (.int p0), .val (.int p1), .val (.int p2), .val (.int p3), .val (.int p4), .val (.int p5), .val (.int v1), .val (.int (1 : Int32)), .val (.int r3), .val (.int v4), .val (.int v5), .val (.int v6), .val (.int v7), .val (.ref b11), .val (.ref b12)] [(.int (bi ((1 : Int32) < (v1 + (1 : Int32)).toNatClampNeg.toInt32 → u13 (1 : Int32).toNatClampNeg = own_below (1 : Int32) (1 : Int32) v4 v5 v6 v7)))])
      refine Goes.go (fun _ => XS.ifNo S.here B.x rfl (B.d at_237) rfl ((if0 _ _).trans (feq (bi_ne (show (1 : Int32) < (v1 + (1 : Int32)).toNatClampNeg.toInt32 → u13 (1 : Int32).toNatClampNeg = own_below (1 : Int32) (1 : Int32) v4 v5 v6 v7 from fun q => (own_fin hrg hkk hf3_185 1 (by decide) q).trans (own_bel1 _ v4 v5 v6 v7)))).1)) ?_
      show Goes _ _ _ _ T (mkF me_ 240 #[.val (.int p0), .val (.int p1), .val (.int p2), .val (.int p3), .val (.int p4), .val (.int p5), .val (.int v1), .val (.int (1 : Int32)), .val (.int r3), .val (.int v4), .val (.int v5), .val (.int v6), .val (.int v7), .val (.ref b11), .val (.ref b12)] [])
      refine Goes.go (fun _ => XS.aload S.here B.x rfl (B.d at_240) rfl rfl) ?_
      show Goes _ _ _ _ T (mkF me_ 242 #[.val (.int p0), .val (.int p1), .val (.int p2), .val (.int p3), .val (.int p4), .val (.int p5), .val (.int v1), .val (.int (1 : Int32)), .val (.int r3), .val (.int v4), .val (.int v5), .val (.int v6), .val (.int v7), .val (.ref b11), .val (.ref b12)] [(.ref b12)])
      refine Goes.go (fun _ => XS.iconst S.here B.x rfl (B.d at_242)) ?_
      show Goes _ _ _ _ T (mkF me_ 243 #[.val (.int p0), .val (.int p1), .val (.int p2), .val (.int p3), .val (.int p4), .val (.int p5), .val (.int v1), .val (.int (1 : Int32)), .val (.int r3), .val (.int v4), .val (.int v5), .val (.int v6), .val (.int v7), .val (.ref b11), .val (.ref b12)] [(.int (2 : Int32)), (.ref b12)])
      refine Goes.go (fun _ => XS.iload S.here B.x rfl (B.d at_243) rfl) ?_
      show Goes _ _ _ _ T (mkF me_ 245 #[.val (.int p0), .val (.int p1), .val (.int p2), .val (.int p3), .val (.int p4), .val (.int p5), .val (.int v1), .val (.int (1 : Int32)), .val (.int r3), .val (.int v4), .val (.int v5), .val (.int v6), .val (.int v7), .val (.ref b11), .val (.ref b12)] [(.int (1 : Int32)), (.int (2 : Int32)), (.ref b12)])
      refine Goes.go (fun _ => XS.iload S.here B.x rfl (B.d at_245) rfl) ?_
      show Goes _ _ _ _ T (mkF me_ 247 #[.val (.int p0), .val (.int p1), .val (.int p2), .val (.int p3), .val (.int p4), .val (.int p5), .val (.int v1), .val (.int (1 : Int32)), .val (.int r3), .val (.int v4), .val (.int v5), .val (.int v6), .val (.int v7), .val (.ref b11), .val (.ref b12)] [(.int v4), (.int (1 : Int32)), (.int (2 : Int32)), (.ref b12)])
      refine Goes.go (fun _ => XS.iload S.here B.x rfl (B.d at_247) rfl) ?_
      show Goes _ _ _ _ T (mkF me_ 249 #[.val (.int p0), .val (.int p1), .val (.int p2), .val (.int p3), .val (.int p4), .val (.int p5), .val (.int v1), .val (.int (1 : Int32)), .val (.int r3), .val (.int v4), .val (.int v5), .val (.int v6), .val (.int v7), .val (.ref b11), .val (.ref b12)] [(.int v5), (.int v4), (.int (1 : Int32)), (.int (2 : Int32)), (.ref b12)])
      refine Goes.go (fun _ => XS.iload S.here B.x rfl (B.d at_249) rfl) ?_
      show Goes _ _ _ _ T (mkF me_ 251 #[.val (.int p0), .val (.int p1), .val (.int p2), .val (.int p3), .val (.int p4), .val (.int p5), .val (.int v1), .val (.int (1 : Int32)), .val (.int r3), .val (.int v4), .val (.int v5), .val (.int v6), .val (.int v7), .val (.ref b11), .val (.ref b12)] [(.int v6), (.int v5), (.int v4), (.int (1 : Int32)), (.int (2 : Int32)), (.ref b12)])
      refine Goes.go (fun _ => XS.iload S.here B.x rfl (B.d at_251) rfl) ?_
      show Goes _ _ _ _ T (mkF me_ 253 #[.val (.int p0), .val (.int p1), .val (.int p2), .val (.int p3), .val (.int p4), .val (.int p5), .val (.int v1), .val (.int (1 : Int32)), .val (.int r3), .val (.int v4), .val (.int v5), .val (.int v6), .val (.int v7), .val (.ref b11), .val (.ref b12)] [(.int v7), (.int v6), (.int v5), (.int v4), (.int (1 : Int32)), (.int (2 : Int32)), (.ref b12)])
      refine Goes.callS (argsL := [(.ref b12), (.int (2 : Int32)), (.int (1 : Int32)), (.int v4), (.int v5), (.int v6), (.int v7)]) (rest := []) (W := 0) S B (rm_ok l Z aw hw b12 (2 : Int32) (1 : Int32) v4 v5 v6 v7 (v1 + (1 : Int32)).toNatClampNeg u13 _ n0 A_b12 (by decide) (own_hN hrg 2)) (w10 hw) (w11 hw) (w12 hw) (w13 hw) (by decide) (by decide) (by decide) (by decide) (by decide) rfl (lenOf pd_3 rfl) rfl (Nat.le_of_eq rfl) at_253 ?_
      intro v T h S hQ
      obtain ⟨rfl, hh⟩ := hQ
      replace hh := hh.symm
      subst hh
      show Goes _ _ _ _ T (mkF me_ 256 #[.val (.int p0), .val (.int p1), .val (.int p2), .val (.int p3), .val (.int p4), .val (.int p5), .val (.int v1), .val (.int (1 : Int32)), .val (.int r3), .val (.int v4), .val (.int v5), .val (.int v6), .val (.int v7), .val (.ref b11), .val (.ref b12)] [(.int (bi ((2 : Int32) < (v1 + (1 : Int32)).toNatClampNeg.toInt32 → u13 (2 : Int32).toNatClampNeg = own_below (2 : Int32) (1 : Int32) v4 v5 v6 v7)))])
      refine Goes.go (fun _ => XS.ifNo S.here B.x rfl (B.d at_256) rfl ((if0 _ _).trans (feq (bi_ne (show (2 : Int32) < (v1 + (1 : Int32)).toNatClampNeg.toInt32 → u13 (2 : Int32).toNatClampNeg = own_below (2 : Int32) (1 : Int32) v4 v5 v6 v7 from fun q => (own_fin hrg hkk hf3_185 2 (by decide) q).trans (own_bel1 _ v4 v5 v6 v7)))).1)) ?_
      show Goes _ _ _ _ T (mkF me_ 259 #[.val (.int p0), .val (.int p1), .val (.int p2), .val (.int p3), .val (.int p4), .val (.int p5), .val (.int v1), .val (.int (1 : Int32)), .val (.int r3), .val (.int v4), .val (.int v5), .val (.int v6), .val (.int v7), .val (.ref b11), .val (.ref b12)] [])
      refine Goes.go (fun _ => XS.aload S.here B.x rfl (B.d at_259) rfl rfl) ?_
      show Goes _ _ _ _ T (mkF me_ 261 #[.val (.int p0), .val (.int p1), .val (.int p2), .val (.int p3), .val (.int p4), .val (.int p5), .val (.int v1), .val (.int (1 : Int32)), .val (.int r3), .val (.int v4), .val (.int v5), .val (.int v6), .val (.int v7), .val (.ref b11), .val (.ref b12)] [(.ref b12)])
      refine Goes.go (fun _ => XS.iconst S.here B.x rfl (B.d at_261)) ?_
      show Goes _ _ _ _ T (mkF me_ 262 #[.val (.int p0), .val (.int p1), .val (.int p2), .val (.int p3), .val (.int p4), .val (.int p5), .val (.int v1), .val (.int (1 : Int32)), .val (.int r3), .val (.int v4), .val (.int v5), .val (.int v6), .val (.int v7), .val (.ref b11), .val (.ref b12)] [(.int (3 : Int32)), (.ref b12)])
      refine Goes.go (fun _ => XS.iload S.here B.x rfl (B.d at_262) rfl) ?_
      show Goes _ _ _ _ T (mkF me_ 264 #[.val (.int p0), .val (.int p1), .val (.int p2), .val (.int p3), .val (.int p4), .val (.int p5), .val (.int v1), .val (.int (1 : Int32)), .val (.int r3), .val (.int v4), .val (.int v5), .val (.int v6), .val (.int v7), .val (.ref b11), .val (.ref b12)] [(.int (1 : Int32)), (.int (3 : Int32)), (.ref b12)])
      refine Goes.go (fun _ => XS.iload S.here B.x rfl (B.d at_264) rfl) ?_
      show Goes _ _ _ _ T (mkF me_ 266 #[.val (.int p0), .val (.int p1), .val (.int p2), .val (.int p3), .val (.int p4), .val (.int p5), .val (.int v1), .val (.int (1 : Int32)), .val (.int r3), .val (.int v4), .val (.int v5), .val (.int v6), .val (.int v7), .val (.ref b11), .val (.ref b12)] [(.int v4), (.int (1 : Int32)), (.int (3 : Int32)), (.ref b12)])
      refine Goes.go (fun _ => XS.iload S.here B.x rfl (B.d at_266) rfl) ?_
      show Goes _ _ _ _ T (mkF me_ 268 #[.val (.int p0), .val (.int p1), .val (.int p2), .val (.int p3), .val (.int p4), .val (.int p5), .val (.int v1), .val (.int (1 : Int32)), .val (.int r3), .val (.int v4), .val (.int v5), .val (.int v6), .val (.int v7), .val (.ref b11), .val (.ref b12)] [(.int v5), (.int v4), (.int (1 : Int32)), (.int (3 : Int32)), (.ref b12)])
      refine Goes.go (fun _ => XS.iload S.here B.x rfl (B.d at_268) rfl) ?_
      show Goes _ _ _ _ T (mkF me_ 270 #[.val (.int p0), .val (.int p1), .val (.int p2), .val (.int p3), .val (.int p4), .val (.int p5), .val (.int v1), .val (.int (1 : Int32)), .val (.int r3), .val (.int v4), .val (.int v5), .val (.int v6), .val (.int v7), .val (.ref b11), .val (.ref b12)] [(.int v6), (.int v5), (.int v4), (.int (1 : Int32)), (.int (3 : Int32)), (.ref b12)])
      refine Goes.go (fun _ => XS.iload S.here B.x rfl (B.d at_270) rfl) ?_
      show Goes _ _ _ _ T (mkF me_ 272 #[.val (.int p0), .val (.int p1), .val (.int p2), .val (.int p3), .val (.int p4), .val (.int p5), .val (.int v1), .val (.int (1 : Int32)), .val (.int r3), .val (.int v4), .val (.int v5), .val (.int v6), .val (.int v7), .val (.ref b11), .val (.ref b12)] [(.int v7), (.int v6), (.int v5), (.int v4), (.int (1 : Int32)), (.int (3 : Int32)), (.ref b12)])
      refine Goes.callS (argsL := [(.ref b12), (.int (3 : Int32)), (.int (1 : Int32)), (.int v4), (.int v5), (.int v6), (.int v7)]) (rest := []) (W := 0) S B (rm_ok l Z aw hw b12 (3 : Int32) (1 : Int32) v4 v5 v6 v7 (v1 + (1 : Int32)).toNatClampNeg u13 _ n0 A_b12 (by decide) (own_hN hrg 3)) (w10 hw) (w11 hw) (w12 hw) (w13 hw) (by decide) (by decide) (by decide) (by decide) (by decide) rfl (lenOf pd_3 rfl) rfl (Nat.le_of_eq rfl) at_272 ?_
      intro v T h S hQ
      obtain ⟨rfl, hh⟩ := hQ
      replace hh := hh.symm
      subst hh
      show Goes _ _ _ _ T (mkF me_ 275 #[.val (.int p0), .val (.int p1), .val (.int p2), .val (.int p3), .val (.int p4), .val (.int p5), .val (.int v1), .val (.int (1 : Int32)), .val (.int r3), .val (.int v4), .val (.int v5), .val (.int v6), .val (.int v7), .val (.ref b11), .val (.ref b12)] [(.int (bi ((3 : Int32) < (v1 + (1 : Int32)).toNatClampNeg.toInt32 → u13 (3 : Int32).toNatClampNeg = own_below (3 : Int32) (1 : Int32) v4 v5 v6 v7)))])
      refine Goes.go (fun _ => XS.ifNo S.here B.x rfl (B.d at_275) rfl ((if0 _ _).trans (feq (bi_ne (show (3 : Int32) < (v1 + (1 : Int32)).toNatClampNeg.toInt32 → u13 (3 : Int32).toNatClampNeg = own_below (3 : Int32) (1 : Int32) v4 v5 v6 v7 from fun q => (own_fin hrg hkk hf3_185 3 (by decide) q).trans (own_bel1 _ v4 v5 v6 v7)))).1)) ?_
      show Goes _ _ _ _ T (mkF me_ 278 #[.val (.int p0), .val (.int p1), .val (.int p2), .val (.int p3), .val (.int p4), .val (.int p5), .val (.int v1), .val (.int (1 : Int32)), .val (.int r3), .val (.int v4), .val (.int v5), .val (.int v6), .val (.int v7), .val (.ref b11), .val (.ref b12)] [])
      refine Goes.go (fun _ => XS.aload S.here B.x rfl (B.d at_278) rfl rfl) ?_
      show Goes _ _ _ _ T (mkF me_ 280 #[.val (.int p0), .val (.int p1), .val (.int p2), .val (.int p3), .val (.int p4), .val (.int p5), .val (.int v1), .val (.int (1 : Int32)), .val (.int r3), .val (.int v4), .val (.int v5), .val (.int v6), .val (.int v7), .val (.ref b11), .val (.ref b12)] [(.ref b12)])
      refine Goes.go (fun _ => XS.iconst S.here B.x rfl (B.d at_280)) ?_
      show Goes _ _ _ _ T (mkF me_ 281 #[.val (.int p0), .val (.int p1), .val (.int p2), .val (.int p3), .val (.int p4), .val (.int p5), .val (.int v1), .val (.int (1 : Int32)), .val (.int r3), .val (.int v4), .val (.int v5), .val (.int v6), .val (.int v7), .val (.ref b11), .val (.ref b12)] [(.int (4 : Int32)), (.ref b12)])
      refine Goes.go (fun _ => XS.iload S.here B.x rfl (B.d at_281) rfl) ?_
      show Goes _ _ _ _ T (mkF me_ 283 #[.val (.int p0), .val (.int p1), .val (.int p2), .val (.int p3), .val (.int p4), .val (.int p5), .val (.int v1), .val (.int (1 : Int32)), .val (.int r3), .val (.int v4), .val (.int v5), .val (.int v6), .val (.int v7), .val (.ref b11), .val (.ref b12)] [(.int (1 : Int32)), (.int (4 : Int32)), (.ref b12)])
      refine Goes.go (fun _ => XS.iload S.here B.x rfl (B.d at_283) rfl) ?_
      show Goes _ _ _ _ T (mkF me_ 285 #[.val (.int p0), .val (.int p1), .val (.int p2), .val (.int p3), .val (.int p4), .val (.int p5), .val (.int v1), .val (.int (1 : Int32)), .val (.int r3), .val (.int v4), .val (.int v5), .val (.int v6), .val (.int v7), .val (.ref b11), .val (.ref b12)] [(.int v4), (.int (1 : Int32)), (.int (4 : Int32)), (.ref b12)])
      refine Goes.go (fun _ => XS.iload S.here B.x rfl (B.d at_285) rfl) ?_
      show Goes _ _ _ _ T (mkF me_ 287 #[.val (.int p0), .val (.int p1), .val (.int p2), .val (.int p3), .val (.int p4), .val (.int p5), .val (.int v1), .val (.int (1 : Int32)), .val (.int r3), .val (.int v4), .val (.int v5), .val (.int v6), .val (.int v7), .val (.ref b11), .val (.ref b12)] [(.int v5), (.int v4), (.int (1 : Int32)), (.int (4 : Int32)), (.ref b12)])
      refine Goes.go (fun _ => XS.iload S.here B.x rfl (B.d at_287) rfl) ?_
      show Goes _ _ _ _ T (mkF me_ 289 #[.val (.int p0), .val (.int p1), .val (.int p2), .val (.int p3), .val (.int p4), .val (.int p5), .val (.int v1), .val (.int (1 : Int32)), .val (.int r3), .val (.int v4), .val (.int v5), .val (.int v6), .val (.int v7), .val (.ref b11), .val (.ref b12)] [(.int v6), (.int v5), (.int v4), (.int (1 : Int32)), (.int (4 : Int32)), (.ref b12)])
      refine Goes.go (fun _ => XS.iload S.here B.x rfl (B.d at_289) rfl) ?_
      show Goes _ _ _ _ T (mkF me_ 291 #[.val (.int p0), .val (.int p1), .val (.int p2), .val (.int p3), .val (.int p4), .val (.int p5), .val (.int v1), .val (.int (1 : Int32)), .val (.int r3), .val (.int v4), .val (.int v5), .val (.int v6), .val (.int v7), .val (.ref b11), .val (.ref b12)] [(.int v7), (.int v6), (.int v5), (.int v4), (.int (1 : Int32)), (.int (4 : Int32)), (.ref b12)])
      refine Goes.callS (argsL := [(.ref b12), (.int (4 : Int32)), (.int (1 : Int32)), (.int v4), (.int v5), (.int v6), (.int v7)]) (rest := []) (W := 0) S B (rm_ok l Z aw hw b12 (4 : Int32) (1 : Int32) v4 v5 v6 v7 (v1 + (1 : Int32)).toNatClampNeg u13 _ n0 A_b12 (by decide) (own_hN hrg 4)) (w10 hw) (w11 hw) (w12 hw) (w13 hw) (by decide) (by decide) (by decide) (by decide) (by decide) rfl (lenOf pd_3 rfl) rfl (Nat.le_of_eq rfl) at_291 ?_
      intro v T h S hQ
      obtain ⟨rfl, hh⟩ := hQ
      replace hh := hh.symm
      subst hh
      show Goes _ _ _ _ T (mkF me_ 294 #[.val (.int p0), .val (.int p1), .val (.int p2), .val (.int p3), .val (.int p4), .val (.int p5), .val (.int v1), .val (.int (1 : Int32)), .val (.int r3), .val (.int v4), .val (.int v5), .val (.int v6), .val (.int v7), .val (.ref b11), .val (.ref b12)] [(.int (bi ((4 : Int32) < (v1 + (1 : Int32)).toNatClampNeg.toInt32 → u13 (4 : Int32).toNatClampNeg = own_below (4 : Int32) (1 : Int32) v4 v5 v6 v7)))])
      refine Goes.go (fun _ => XS.ifNo S.here B.x rfl (B.d at_294) rfl ((if0 _ _).trans (feq (bi_ne (show (4 : Int32) < (v1 + (1 : Int32)).toNatClampNeg.toInt32 → u13 (4 : Int32).toNatClampNeg = own_below (4 : Int32) (1 : Int32) v4 v5 v6 v7 from fun q => (own_fin hrg hkk hf3_185 4 (by decide) q).trans (own_bel1 _ v4 v5 v6 v7)))).1)) ?_
      show Goes _ _ _ _ T (mkF me_ 297 #[.val (.int p0), .val (.int p1), .val (.int p2), .val (.int p3), .val (.int p4), .val (.int p5), .val (.int v1), .val (.int (1 : Int32)), .val (.int r3), .val (.int v4), .val (.int v5), .val (.int v6), .val (.int v7), .val (.ref b11), .val (.ref b12)] [])
      refine Goes.go (fun _ => XS.iconst S.here B.x rfl (B.d at_297)) ?_
      show Goes _ _ _ _ T (mkF me_ 298 #[.val (.int p0), .val (.int p1), .val (.int p2), .val (.int p3), .val (.int p4), .val (.int p5), .val (.int v1), .val (.int (1 : Int32)), .val (.int r3), .val (.int v4), .val (.int v5), .val (.int v6), .val (.int v7), .val (.ref b11), .val (.ref b12)] [(.int (1 : Int32))])
      refine Goes.go (fun _ => XS.goto S.here B.x rfl (pc0 := 298) (pc' := 302) rfl (B.d at_298) (by decide) (by decide)) ?_
      show Goes _ _ _ _ T (mkF me_ 302 #[.val (.int p0), .val (.int p1), .val (.int p2), .val (.int p3), .val (.int p4), .val (.int p5), .val (.int v1), .val (.int (1 : Int32)), .val (.int r3), .val (.int v4), .val (.int v5), .val (.int v6), .val (.int v7), .val (.ref b11), .val (.ref b12)] [(.int (1 : Int32))])
      refine Goes.retN S B (by simp) at_302 (by decide) (by decide) ?_
      exact rfl
    · skip
      show Goes _ _ _ _ T (mkF me_ 71 #[.val (.int p0), .val (.int p1), .val (.int p2), .val (.int p3), .val (.int p4), .val (.int p5), .val (.int v1), .val (.int (2 : Int32)), .val (.int r3), .val (.int v4), .val (.int v5), .val (.int v6), .val (.int v7), .unset, .unset] [])
      refine Goes.go (fun _ => XS.iload S.here B.x rfl (B.d at_71) rfl) ?_
      show Goes _ _ _ _ T (mkF me_ 73 #[.val (.int p0), .val (.int p1), .val (.int p2), .val (.int p3), .val (.int p4), .val (.int p5), .val (.int v1), .val (.int (2 : Int32)), .val (.int r3), .val (.int v4), .val (.int v5), .val (.int v6), .val (.int v7), .unset, .unset] [(.int (2 : Int32))])
      refine Goes.go (fun _ => XS.ifYes S.here B.x rfl (pc0 := 73) (pc' := 84) rfl (B.d at_73) rfl (by decide) (by decide) (by decide)) ?_
      show Goes _ _ _ _ T (mkF me_ 84 #[.val (.int p0), .val (.int p1), .val (.int p2), .val (.int p3), .val (.int p4), .val (.int p5), .val (.int v1), .val (.int (2 : Int32)), .val (.int r3), .val (.int v4), .val (.int v5), .val (.int v6), .val (.int v7), .unset, .unset] [])
      refine Goes.go (fun _ => XS.iload S.here B.x rfl (B.d at_84) rfl) ?_
      show Goes _ _ _ _ T (mkF me_ 86 #[.val (.int p0), .val (.int p1), .val (.int p2), .val (.int p3), .val (.int p4), .val (.int p5), .val (.int v1), .val (.int (2 : Int32)), .val (.int r3), .val (.int v4), .val (.int v5), .val (.int v6), .val (.int v7), .unset, .unset] [(.int (2 : Int32))])
      refine Goes.go (fun _ => XS.iconst S.here B.x rfl (B.d at_86)) ?_
      show Goes _ _ _ _ T (mkF me_ 87 #[.val (.int p0), .val (.int p1), .val (.int p2), .val (.int p3), .val (.int p4), .val (.int p5), .val (.int v1), .val (.int (2 : Int32)), .val (.int r3), .val (.int v4), .val (.int v5), .val (.int v6), .val (.int v7), .unset, .unset] [(.int (1 : Int32)), (.int (2 : Int32))])
      refine Goes.go (fun _ => XS.icmpYes S.here B.x rfl (pc0 := 87) (pc' := 103) rfl (B.d at_87) rfl (by decide) (by decide) (by decide)) ?_
      show Goes _ _ _ _ T (mkF me_ 103 #[.val (.int p0), .val (.int p1), .val (.int p2), .val (.int p3), .val (.int p4), .val (.int p5), .val (.int v1), .val (.int (2 : Int32)), .val (.int r3), .val (.int v4), .val (.int v5), .val (.int v6), .val (.int v7), .unset, .unset] [])
      refine Goes.go (fun _ => XS.iload S.here B.x rfl (B.d at_103) rfl) ?_
      show Goes _ _ _ _ T (mkF me_ 105 #[.val (.int p0), .val (.int p1), .val (.int p2), .val (.int p3), .val (.int p4), .val (.int p5), .val (.int v1), .val (.int (2 : Int32)), .val (.int r3), .val (.int v4), .val (.int v5), .val (.int v6), .val (.int v7), .unset, .unset] [(.int (2 : Int32))])
      refine Goes.go (fun _ => XS.iconst S.here B.x rfl (B.d at_105)) ?_
      show Goes _ _ _ _ T (mkF me_ 106 #[.val (.int p0), .val (.int p1), .val (.int p2), .val (.int p3), .val (.int p4), .val (.int p5), .val (.int v1), .val (.int (2 : Int32)), .val (.int r3), .val (.int v4), .val (.int v5), .val (.int v6), .val (.int v7), .unset, .unset] [(.int (2 : Int32)), (.int (2 : Int32))])
      refine Goes.go (fun _ => XS.icmpNo S.here B.x rfl (B.d at_106) rfl (by decide)) ?_
      show Goes _ _ _ _ T (mkF me_ 109 #[.val (.int p0), .val (.int p1), .val (.int p2), .val (.int p3), .val (.int p4), .val (.int p5), .val (.int v1), .val (.int (2 : Int32)), .val (.int r3), .val (.int v4), .val (.int v5), .val (.int v6), .val (.int v7), .unset, .unset] [])
      refine Goes.go (fun _ => XS.iconst S.here B.x rfl (B.d at_109)) ?_
      show Goes _ _ _ _ T (mkF me_ 110 #[.val (.int p0), .val (.int p1), .val (.int p2), .val (.int p3), .val (.int p4), .val (.int p5), .val (.int v1), .val (.int (2 : Int32)), .val (.int r3), .val (.int v4), .val (.int v5), .val (.int v6), .val (.int v7), .unset, .unset] [(.int (2 : Int32))])
      refine Goes.newP (aty := .int) (cap := 2) S B (w5 hw) at_110 (by decide) (by decide) (by decide) (by decide) (by decide) ?_
      intro T h b14 S X zb g_b14 A_b14
      replace A_b14 : Ary Z h b14 .int 2 (fun i => (.int ((fun _ => 0) i))) := A_b14
      show Goes _ _ _ _ T (mkF me_ 112 #[.val (.int p0), .val (.int p1), .val (.int p2), .val (.int p3), .val (.int p4), .val (.int p5), .val (.int v1), .val (.int (2 : Int32)), .val (.int r3), .val (.int v4), .val (.int v5), .val (.int v6), .val (.int v7), .unset, .unset] [(.ref b14)])
      refine Goes.go (fun _ => XS.dup S.here B.x rfl (B.d at_112) rfl rfl) ?_
      show Goes _ _ _ _ T (mkF me_ 113 #[.val (.int p0), .val (.int p1), .val (.int p2), .val (.int p3), .val (.int p4), .val (.int p5), .val (.int v1), .val (.int (2 : Int32)), .val (.int r3), .val (.int v4), .val (.int v5), .val (.int v6), .val (.int v7), .unset, .unset] [(.ref b14), (.ref b14)])
      refine Goes.go (fun _ => XS.iconst S.here B.x rfl (B.d at_113)) ?_
      show Goes _ _ _ _ T (mkF me_ 114 #[.val (.int p0), .val (.int p1), .val (.int p2), .val (.int p3), .val (.int p4), .val (.int p5), .val (.int v1), .val (.int (2 : Int32)), .val (.int r3), .val (.int v4), .val (.int v5), .val (.int v6), .val (.int v7), .unset, .unset] [(.int (0 : Int32)), (.ref b14), (.ref b14)])
      refine Goes.go (fun _ => XS.iload S.here B.x rfl (B.d at_114) rfl) ?_
      show Goes _ _ _ _ T (mkF me_ 116 #[.val (.int p0), .val (.int p1), .val (.int p2), .val (.int p3), .val (.int p4), .val (.int p5), .val (.int v1), .val (.int (2 : Int32)), .val (.int r3), .val (.int v4), .val (.int v5), .val (.int v6), .val (.int v7), .unset, .unset] [(.int v4), (.int (0 : Int32)), (.ref b14), (.ref b14)])
      refine Goes.iastore S B A_b14 (by decide) (by decide) g_b14 at_116 ?_
      intro T h S W A_b14
      replace A_b14 : Ary Z h b14 .int 2 (aup (fun i => (.int ((fun _ => 0) i))) 0 (.int v4)) := A_b14
      rw [aup_int] at A_b14
      show Goes _ _ _ _ T (mkF me_ 117 #[.val (.int p0), .val (.int p1), .val (.int p2), .val (.int p3), .val (.int p4), .val (.int p5), .val (.int v1), .val (.int (2 : Int32)), .val (.int r3), .val (.int v4), .val (.int v5), .val (.int v6), .val (.int v7), .unset, .unset] [(.ref b14)])
      refine Goes.go (fun _ => XS.dup S.here B.x rfl (B.d at_117) rfl rfl) ?_
      show Goes _ _ _ _ T (mkF me_ 118 #[.val (.int p0), .val (.int p1), .val (.int p2), .val (.int p3), .val (.int p4), .val (.int p5), .val (.int v1), .val (.int (2 : Int32)), .val (.int r3), .val (.int v4), .val (.int v5), .val (.int v6), .val (.int v7), .unset, .unset] [(.ref b14), (.ref b14)])
      refine Goes.go (fun _ => XS.iconst S.here B.x rfl (B.d at_118)) ?_
      show Goes _ _ _ _ T (mkF me_ 119 #[.val (.int p0), .val (.int p1), .val (.int p2), .val (.int p3), .val (.int p4), .val (.int p5), .val (.int v1), .val (.int (2 : Int32)), .val (.int r3), .val (.int v4), .val (.int v5), .val (.int v6), .val (.int v7), .unset, .unset] [(.int (1 : Int32)), (.ref b14), (.ref b14)])
      refine Goes.go (fun _ => XS.iload S.here B.x rfl (B.d at_119) rfl) ?_
      show Goes _ _ _ _ T (mkF me_ 121 #[.val (.int p0), .val (.int p1), .val (.int p2), .val (.int p3), .val (.int p4), .val (.int p5), .val (.int v1), .val (.int (2 : Int32)), .val (.int r3), .val (.int v4), .val (.int v5), .val (.int v6), .val (.int v7), .unset, .unset] [(.int v5), (.int (1 : Int32)), (.ref b14), (.ref b14)])
      refine Goes.iastore S B A_b14 (by decide) (by decide) g_b14 at_121 ?_
      intro T h S W A_b14
      replace A_b14 : Ary Z h b14 .int 2 (aup (fun i => (.int ((aup (fun _ => 0) 0 v4) i))) 1 (.int v5)) := A_b14
      rw [aup_int] at A_b14
      show Goes _ _ _ _ T (mkF me_ 122 #[.val (.int p0), .val (.int p1), .val (.int p2), .val (.int p3), .val (.int p4), .val (.int p5), .val (.int v1), .val (.int (2 : Int32)), .val (.int r3), .val (.int v4), .val (.int v5), .val (.int v6), .val (.int v7), .unset, .unset] [(.ref b14)])
      refine Goes.go (fun _ => XS.astore S.here B.x rfl (B.d at_122) rfl rfl (l' := #[.val (.int p0), .val (.int p1), .val (.int p2), .val (.int p3), .val (.int p4), .val (.int p5), .val (.int v1), .val (.int (2 : Int32)), .val (.int r3), .val (.int v4), .val (.int v5), .val (.int v6), .val (.int v7), .val (.ref b14), .unset]) rfl) ?_
      show Goes _ _ _ _ T (mkF me_ 124 #[.val (.int p0), .val (.int p1), .val (.int p2), .val (.int p3), .val (.int p4), .val (.int p5), .val (.int v1), .val (.int (2 : Int32)), .val (.int r3), .val (.int v4), .val (.int v5), .val (.int v6), .val (.int v7), .val (.ref b14), .unset] [])
      refine Goes.go (fun _ => XS.goto S.here B.x rfl (pc0 := 124) (pc' := 181) rfl (B.d at_124) (by decide) (by decide)) ?_
      show Goes _ _ _ _ T (mkF me_ 181 #[.val (.int p0), .val (.int p1), .val (.int p2), .val (.int p3), .val (.int p4), .val (.int p5), .val (.int v1), .val (.int (2 : Int32)), .val (.int r3), .val (.int v4), .val (.int v5), .val (.int v6), .val (.int v7), .val (.ref b14), .unset] [])
      refine Goes.go (fun _ => XS.aload S.here B.x rfl (B.d at_181) rfl rfl) ?_
      show Goes _ _ _ _ T (mkF me_ 183 #[.val (.int p0), .val (.int p1), .val (.int p2), .val (.int p3), .val (.int p4), .val (.int p5), .val (.int v1), .val (.int (2 : Int32)), .val (.int r3), .val (.int v4), .val (.int v5), .val (.int v6), .val (.int v7), .val (.ref b14), .unset] [(.ref b14)])
      refine Goes.go (fun _ => XS.iload S.here B.x rfl (B.d at_183) rfl) ?_
      show Goes _ _ _ _ T (mkF me_ 185 #[.val (.int p0), .val (.int p1), .val (.int p2), .val (.int p3), .val (.int p4), .val (.int p5), .val (.int v1), .val (.int (2 : Int32)), .val (.int r3), .val (.int v4), .val (.int v5), .val (.int v6), .val (.int v7), .val (.ref b14), .unset] [(.int v1), (.ref b14)])
      have zle := S.le
      refine Goes.callS (argsL := [(.ref b14), (.int v1)]) (rest := []) (W := 0) S B (rm_rs l Z aw hw b14 v1 2 (aup (aup (fun _ => 0) 0 v4) 1 v5) _ n0 A_b14 hrg (by decide) (own_k2 (own_kr hrg (fun q => by have := hc7.2.2 q; revert this; decide) hr3 hv4) (own_kr hrg (fun q => by have := hc7.2.2 q; revert this; decide) hr3 hv5))) (w6 hw) (w7 hw) (w8 hw) (w9 hw) (by decide) (by decide) (by decide) (by decide) (by decide) rfl (lenOf pd_2 rfl) rfl (Nat.le_of_eq rfl) at_185 ?_
      intro v T h S hQ
      obtain ⟨b15, u16, rfl, zb, Kc, A_b15', hf3_185⟩ := hQ
      have ne_b14__b15 : b14 ≠ b15 := Nat.ne_of_lt (Nat.lt_of_lt_of_le A_b14.lt zb)
      have g_b15 : n0 ≤ b15 := Nat.le_trans zle zb
      replace A_b14 := A_b14.keep Kc nin0
      have A_b15 := A_b15'
      show Goes _ _ _ _ T (mkF me_ 188 #[.val (.int p0), .val (.int p1), .val (.int p2), .val (.int p3), .val (.int p4), .val (.int p5), .val (.int v1), .val (.int (2 : Int32)), .val (.int r3), .val (.int v4), .val (.int v5), .val (.int v6), .val (.int v7), .val (.ref b14), .unset] [(.ref b15)])
      have hkk := (own_k2 (own_kr hrg (fun q => by have := hc7.2.2 q; revert this; decide) hr3 hv4) (own_kr hrg (fun q => by have := hc7.2.2 q; revert this; decide) hr3 hv5))
      refine Goes.go (fun _ => XS.astore S.here B.x rfl (B.d at_188) rfl rfl (l' := #[.val (.int p0), .val (.int p1), .val (.int p2), .val (.int p3), .val (.int p4), .val (.int p5), .val (.int v1), .val (.int (2 : Int32)), .val (.int r3), .val (.int v4), .val (.int v5), .val (.int v6), .val (.int v7), .val (.ref b14), .val (.ref b15)]) rfl) ?_
      show Goes _ _ _ _ T (mkF me_ 190 #[.val (.int p0), .val (.int p1), .val (.int p2), .val (.int p3), .val (.int p4), .val (.int p5), .val (.int v1), .val (.int (2 : Int32)), .val (.int r3), .val (.int v4), .val (.int v5), .val (.int v6), .val (.int v7), .val (.ref b14), .val (.ref b15)] [])
      refine Goes.go (fun _ => XS.aload S.here B.x rfl (B.d at_190) rfl rfl) ?_
      show Goes _ _ _ _ T (mkF me_ 192 #[.val (.int p0), .val (.int p1), .val (.int p2), .val (.int p3), .val (.int p4), .val (.int p5), .val (.int v1), .val (.int (2 : Int32)), .val (.int r3), .val (.int v4), .val (.int v5), .val (.int v6), .val (.int v7), .val (.ref b14), .val (.ref b15)] [(.ref b15)])
      refine Goes.alen S B A_b15 (z := (v1 + (1 : Int32))) (back32 (own_np hrg).1).1 at_192 ?_
      show Goes _ _ _ _ T (mkF me_ 193 #[.val (.int p0), .val (.int p1), .val (.int p2), .val (.int p3), .val (.int p4), .val (.int p5), .val (.int v1), .val (.int (2 : Int32)), .val (.int r3), .val (.int v4), .val (.int v5), .val (.int v6), .val (.int v7), .val (.ref b14), .val (.ref b15)] [(.int (v1 + (1 : Int32)))])
      refine Goes.go (fun _ => XS.iload S.here B.x rfl (B.d at_193) rfl) ?_
      show Goes _ _ _ _ T (mkF me_ 195 #[.val (.int p0), .val (.int p1), .val (.int p2), .val (.int p3), .val (.int p4), .val (.int p5), .val (.int v1), .val (.int (2 : Int32)), .val (.int r3), .val (.int v4), .val (.int v5), .val (.int v6), .val (.int v7), .val (.ref b14), .val (.ref b15)] [(.int v1), (.int (v1 + (1 : Int32)))])
      refine Goes.go (fun _ => XS.iconst S.here B.x rfl (B.d at_195)) ?_
      show Goes _ _ _ _ T (mkF me_ 196 #[.val (.int p0), .val (.int p1), .val (.int p2), .val (.int p3), .val (.int p4), .val (.int p5), .val (.int v1), .val (.int (2 : Int32)), .val (.int r3), .val (.int v4), .val (.int v5), .val (.int v6), .val (.int v7), .val (.ref b14), .val (.ref b15)] [(.int (1 : Int32)), (.int v1), (.int (v1 + (1 : Int32)))])
      refine Goes.go (fun _ => XS.iadd S.here B.x rfl (B.d at_196) rfl) ?_
      show Goes _ _ _ _ T (mkF me_ 197 #[.val (.int p0), .val (.int p1), .val (.int p2), .val (.int p3), .val (.int p4), .val (.int p5), .val (.int v1), .val (.int (2 : Int32)), .val (.int r3), .val (.int v4), .val (.int v5), .val (.int v6), .val (.int v7), .val (.ref b14), .val (.ref b15)] [(.int (v1 + (1 : Int32))), (.int (v1 + (1 : Int32)))])
      refine Goes.go (fun _ => XS.icmpYes S.here B.x rfl (pc0 := 197) (pc' := 202) rfl (B.d at_197) rfl (teq (rfl : (v1 + (1 : Int32)) = (v1 + (1 : Int32)))).1 (by decide) (by decide)) ?_
      show Goes _ _ _ _ T (mkF me_ 202 #[.val (.int p0), .val (.int p1), .val (.int p2), .val (.int p3), .val (.int p4), .val (.int p5), .val (.int v1), .val (.int (2 : Int32)), .val (.int r3), .val (.int v4), .val (.int v5), .val (.int v6), .val (.int v7), .val (.ref b14), .val (.ref b15)] [])
      refine Goes.go (fun _ => XS.aload S.here B.x rfl (B.d at_202) rfl rfl) ?_
      show Goes _ _ _ _ T (mkF me_ 204 #[.val (.int p0), .val (.int p1), .val (.int p2), .val (.int p3), .val (.int p4), .val (.int p5), .val (.int v1), .val (.int (2 : Int32)), .val (.int r3), .val (.int v4), .val (.int v5), .val (.int v6), .val (.int v7), .val (.ref b14), .val (.ref b15)] [(.ref b15)])
      refine Goes.go (fun _ => XS.iconst S.here B.x rfl (B.d at_204)) ?_
      show Goes _ _ _ _ T (mkF me_ 205 #[.val (.int p0), .val (.int p1), .val (.int p2), .val (.int p3), .val (.int p4), .val (.int p5), .val (.int v1), .val (.int (2 : Int32)), .val (.int r3), .val (.int v4), .val (.int v5), .val (.int v6), .val (.int v7), .val (.ref b14), .val (.ref b15)] [(.int (0 : Int32)), (.ref b15)])
      refine Goes.go (fun _ => XS.iload S.here B.x rfl (B.d at_205) rfl) ?_
      show Goes _ _ _ _ T (mkF me_ 207 #[.val (.int p0), .val (.int p1), .val (.int p2), .val (.int p3), .val (.int p4), .val (.int p5), .val (.int v1), .val (.int (2 : Int32)), .val (.int r3), .val (.int v4), .val (.int v5), .val (.int v6), .val (.int v7), .val (.ref b14), .val (.ref b15)] [(.int (2 : Int32)), (.int (0 : Int32)), (.ref b15)])
      refine Goes.go (fun _ => XS.iload S.here B.x rfl (B.d at_207) rfl) ?_
      show Goes _ _ _ _ T (mkF me_ 209 #[.val (.int p0), .val (.int p1), .val (.int p2), .val (.int p3), .val (.int p4), .val (.int p5), .val (.int v1), .val (.int (2 : Int32)), .val (.int r3), .val (.int v4), .val (.int v5), .val (.int v6), .val (.int v7), .val (.ref b14), .val (.ref b15)] [(.int v4), (.int (2 : Int32)), (.int (0 : Int32)), (.ref b15)])
      refine Goes.go (fun _ => XS.iload S.here B.x rfl (B.d at_209) rfl) ?_
      show Goes _ _ _ _ T (mkF me_ 211 #[.val (.int p0), .val (.int p1), .val (.int p2), .val (.int p3), .val (.int p4), .val (.int p5), .val (.int v1), .val (.int (2 : Int32)), .val (.int r3), .val (.int v4), .val (.int v5), .val (.int v6), .val (.int v7), .val (.ref b14), .val (.ref b15)] [(.int v5), (.int v4), (.int (2 : Int32)), (.int (0 : Int32)), (.ref b15)])
      refine Goes.go (fun _ => XS.iload S.here B.x rfl (B.d at_211) rfl) ?_
      show Goes _ _ _ _ T (mkF me_ 213 #[.val (.int p0), .val (.int p1), .val (.int p2), .val (.int p3), .val (.int p4), .val (.int p5), .val (.int v1), .val (.int (2 : Int32)), .val (.int r3), .val (.int v4), .val (.int v5), .val (.int v6), .val (.int v7), .val (.ref b14), .val (.ref b15)] [(.int v6), (.int v5), (.int v4), (.int (2 : Int32)), (.int (0 : Int32)), (.ref b15)])
      refine Goes.go (fun _ => XS.iload S.here B.x rfl (B.d at_213) rfl) ?_
      show Goes _ _ _ _ T (mkF me_ 215 #[.val (.int p0), .val (.int p1), .val (.int p2), .val (.int p3), .val (.int p4), .val (.int p5), .val (.int v1), .val (.int (2 : Int32)), .val (.int r3), .val (.int v4), .val (.int v5), .val (.int v6), .val (.int v7), .val (.ref b14), .val (.ref b15)] [(.int v7), (.int v6), (.int v5), (.int v4), (.int (2 : Int32)), (.int (0 : Int32)), (.ref b15)])
      refine Goes.callS (argsL := [(.ref b15), (.int (0 : Int32)), (.int (2 : Int32)), (.int v4), (.int v5), (.int v6), (.int v7)]) (rest := []) (W := 0) S B (rm_ok l Z aw hw b15 (0 : Int32) (2 : Int32) v4 v5 v6 v7 (v1 + (1 : Int32)).toNatClampNeg u16 _ n0 A_b15 (by decide) (own_hN hrg 0)) (w10 hw) (w11 hw) (w12 hw) (w13 hw) (by decide) (by decide) (by decide) (by decide) (by decide) rfl (lenOf pd_3 rfl) rfl (Nat.le_of_eq rfl) at_215 ?_
      intro v T h S hQ
      obtain ⟨rfl, hh⟩ := hQ
      replace hh := hh.symm
      subst hh
      show Goes _ _ _ _ T (mkF me_ 218 #[.val (.int p0), .val (.int p1), .val (.int p2), .val (.int p3), .val (.int p4), .val (.int p5), .val (.int v1), .val (.int (2 : Int32)), .val (.int r3), .val (.int v4), .val (.int v5), .val (.int v6), .val (.int v7), .val (.ref b14), .val (.ref b15)] [(.int (bi ((0 : Int32) < (v1 + (1 : Int32)).toNatClampNeg.toInt32 → u16 (0 : Int32).toNatClampNeg = own_below (0 : Int32) (2 : Int32) v4 v5 v6 v7)))])
      refine Goes.go (fun _ => XS.ifNo S.here B.x rfl (B.d at_218) rfl ((if0 _ _).trans (feq (bi_ne (show (0 : Int32) < (v1 + (1 : Int32)).toNatClampNeg.toInt32 → u16 (0 : Int32).toNatClampNeg = own_below (0 : Int32) (2 : Int32) v4 v5 v6 v7 from fun q => (own_fin hrg hkk hf3_185 0 (by decide) q).trans (own_bel2 _ v4 v5 v6 v7)))).1)) ?_
      show Goes _ _ _ _ T (mkF me_ 221 #[.val (.int p0), .val (.int p1), .val (.int p2), .val (.int p3), .val (.int p4), .val (.int p5), .val (.int v1), .val (.int (2 : Int32)), .val (.int r3), .val (.int v4), .val (.int v5), .val (.int v6), .val (.int v7), .val (.ref b14), .val (.ref b15)] [])
      refine Goes.go (fun _ => XS.aload S.here B.x rfl (B.d at_221) rfl rfl) ?_
      show Goes _ _ _ _ T (mkF me_ 223 #[.val (.int p0), .val (.int p1), .val (.int p2), .val (.int p3), .val (.int p4), .val (.int p5), .val (.int v1), .val (.int (2 : Int32)), .val (.int r3), .val (.int v4), .val (.int v5), .val (.int v6), .val (.int v7), .val (.ref b14), .val (.ref b15)] [(.ref b15)])
      refine Goes.go (fun _ => XS.iconst S.here B.x rfl (B.d at_223)) ?_
      show Goes _ _ _ _ T (mkF me_ 224 #[.val (.int p0), .val (.int p1), .val (.int p2), .val (.int p3), .val (.int p4), .val (.int p5), .val (.int v1), .val (.int (2 : Int32)), .val (.int r3), .val (.int v4), .val (.int v5), .val (.int v6), .val (.int v7), .val (.ref b14), .val (.ref b15)] [(.int (1 : Int32)), (.ref b15)])
      refine Goes.go (fun _ => XS.iload S.here B.x rfl (B.d at_224) rfl) ?_
      show Goes _ _ _ _ T (mkF me_ 226 #[.val (.int p0), .val (.int p1), .val (.int p2), .val (.int p3), .val (.int p4), .val (.int p5), .val (.int v1), .val (.int (2 : Int32)), .val (.int r3), .val (.int v4), .val (.int v5), .val (.int v6), .val (.int v7), .val (.ref b14), .val (.ref b15)] [(.int (2 : Int32)), (.int (1 : Int32)), (.ref b15)])
      refine Goes.go (fun _ => XS.iload S.here B.x rfl (B.d at_226) rfl) ?_
      show Goes _ _ _ _ T (mkF me_ 228 #[.val (.int p0), .val (.int p1), .val (.int p2), .val (.int p3), .val (.int p4), .val (.int p5), .val (.int v1), .val (.int (2 : Int32)), .val (.int r3), .val (.int v4), .val (.int v5), .val (.int v6), .val (.int v7), .val (.ref b14), .val (.ref b15)] [(.int v4), (.int (2 : Int32)), (.int (1 : Int32)), (.ref b15)])
      refine Goes.go (fun _ => XS.iload S.here B.x rfl (B.d at_228) rfl) ?_
      show Goes _ _ _ _ T (mkF me_ 230 #[.val (.int p0), .val (.int p1), .val (.int p2), .val (.int p3), .val (.int p4), .val (.int p5), .val (.int v1), .val (.int (2 : Int32)), .val (.int r3), .val (.int v4), .val (.int v5), .val (.int v6), .val (.int v7), .val (.ref b14), .val (.ref b15)] [(.int v5), (.int v4), (.int (2 : Int32)), (.int (1 : Int32)), (.ref b15)])
      refine Goes.go (fun _ => XS.iload S.here B.x rfl (B.d at_230) rfl) ?_
      show Goes _ _ _ _ T (mkF me_ 232 #[.val (.int p0), .val (.int p1), .val (.int p2), .val (.int p3), .val (.int p4), .val (.int p5), .val (.int v1), .val (.int (2 : Int32)), .val (.int r3), .val (.int v4), .val (.int v5), .val (.int v6), .val (.int v7), .val (.ref b14), .val (.ref b15)] [(.int v6), (.int v5), (.int v4), (.int (2 : Int32)), (.int (1 : Int32)), (.ref b15)])
      refine Goes.go (fun _ => XS.iload S.here B.x rfl (B.d at_232) rfl) ?_
      show Goes _ _ _ _ T (mkF me_ 234 #[.val (.int p0), .val (.int p1), .val (.int p2), .val (.int p3), .val (.int p4), .val (.int p5), .val (.int v1), .val (.int (2 : Int32)), .val (.int r3), .val (.int v4), .val (.int v5), .val (.int v6), .val (.int v7), .val (.ref b14), .val (.ref b15)] [(.int v7), (.int v6), (.int v5), (.int v4), (.int (2 : Int32)), (.int (1 : Int32)), (.ref b15)])
      refine Goes.callS (argsL := [(.ref b15), (.int (1 : Int32)), (.int (2 : Int32)), (.int v4), (.int v5), (.int v6), (.int v7)]) (rest := []) (W := 0) S B (rm_ok l Z aw hw b15 (1 : Int32) (2 : Int32) v4 v5 v6 v7 (v1 + (1 : Int32)).toNatClampNeg u16 _ n0 A_b15 (by decide) (own_hN hrg 1)) (w10 hw) (w11 hw) (w12 hw) (w13 hw) (by decide) (by decide) (by decide) (by decide) (by decide) rfl (lenOf pd_3 rfl) rfl (Nat.le_of_eq rfl) at_234 ?_
      intro v T h S hQ
      obtain ⟨rfl, hh⟩ := hQ
      replace hh := hh.symm
      subst hh
      show Goes _ _ _ _ T (mkF me_ 237 #[.val (.int p0), .val (.int p1), .val (.int p2), .val (.int p3), .val (.int p4), .val (.int p5), .val (.int v1), .val (.int (2 : Int32)), .val (.int r3), .val (.int v4), .val (.int v5), .val (.int v6), .val (.int v7), .val (.ref b14), .val (.ref b15)] [(.int (bi ((1 : Int32) < (v1 + (1 : Int32)).toNatClampNeg.toInt32 → u16 (1 : Int32).toNatClampNeg = own_below (1 : Int32) (2 : Int32) v4 v5 v6 v7)))])
      refine Goes.go (fun _ => XS.ifNo S.here B.x rfl (B.d at_237) rfl ((if0 _ _).trans (feq (bi_ne (show (1 : Int32) < (v1 + (1 : Int32)).toNatClampNeg.toInt32 → u16 (1 : Int32).toNatClampNeg = own_below (1 : Int32) (2 : Int32) v4 v5 v6 v7 from fun q => (own_fin hrg hkk hf3_185 1 (by decide) q).trans (own_bel2 _ v4 v5 v6 v7)))).1)) ?_
      show Goes _ _ _ _ T (mkF me_ 240 #[.val (.int p0), .val (.int p1), .val (.int p2), .val (.int p3), .val (.int p4), .val (.int p5), .val (.int v1), .val (.int (2 : Int32)), .val (.int r3), .val (.int v4), .val (.int v5), .val (.int v6), .val (.int v7), .val (.ref b14), .val (.ref b15)] [])
      refine Goes.go (fun _ => XS.aload S.here B.x rfl (B.d at_240) rfl rfl) ?_
      show Goes _ _ _ _ T (mkF me_ 242 #[.val (.int p0), .val (.int p1), .val (.int p2), .val (.int p3), .val (.int p4), .val (.int p5), .val (.int v1), .val (.int (2 : Int32)), .val (.int r3), .val (.int v4), .val (.int v5), .val (.int v6), .val (.int v7), .val (.ref b14), .val (.ref b15)] [(.ref b15)])
      refine Goes.go (fun _ => XS.iconst S.here B.x rfl (B.d at_242)) ?_
      show Goes _ _ _ _ T (mkF me_ 243 #[.val (.int p0), .val (.int p1), .val (.int p2), .val (.int p3), .val (.int p4), .val (.int p5), .val (.int v1), .val (.int (2 : Int32)), .val (.int r3), .val (.int v4), .val (.int v5), .val (.int v6), .val (.int v7), .val (.ref b14), .val (.ref b15)] [(.int (2 : Int32)), (.ref b15)])
      refine Goes.go (fun _ => XS.iload S.here B.x rfl (B.d at_243) rfl) ?_
      show Goes _ _ _ _ T (mkF me_ 245 #[.val (.int p0), .val (.int p1), .val (.int p2), .val (.int p3), .val (.int p4), .val (.int p5), .val (.int v1), .val (.int (2 : Int32)), .val (.int r3), .val (.int v4), .val (.int v5), .val (.int v6), .val (.int v7), .val (.ref b14), .val (.ref b15)] [(.int (2 : Int32)), (.int (2 : Int32)), (.ref b15)])
      refine Goes.go (fun _ => XS.iload S.here B.x rfl (B.d at_245) rfl) ?_
      show Goes _ _ _ _ T (mkF me_ 247 #[.val (.int p0), .val (.int p1), .val (.int p2), .val (.int p3), .val (.int p4), .val (.int p5), .val (.int v1), .val (.int (2 : Int32)), .val (.int r3), .val (.int v4), .val (.int v5), .val (.int v6), .val (.int v7), .val (.ref b14), .val (.ref b15)] [(.int v4), (.int (2 : Int32)), (.int (2 : Int32)), (.ref b15)])
      refine Goes.go (fun _ => XS.iload S.here B.x rfl (B.d at_247) rfl) ?_
      show Goes _ _ _ _ T (mkF me_ 249 #[.val (.int p0), .val (.int p1), .val (.int p2), .val (.int p3), .val (.int p4), .val (.int p5), .val (.int v1), .val (.int (2 : Int32)), .val (.int r3), .val (.int v4), .val (.int v5), .val (.int v6), .val (.int v7), .val (.ref b14), .val (.ref b15)] [(.int v5), (.int v4), (.int (2 : Int32)), (.int (2 : Int32)), (.ref b15)])
      refine Goes.go (fun _ => XS.iload S.here B.x rfl (B.d at_249) rfl) ?_
      show Goes _ _ _ _ T (mkF me_ 251 #[.val (.int p0), .val (.int p1), .val (.int p2), .val (.int p3), .val (.int p4), .val (.int p5), .val (.int v1), .val (.int (2 : Int32)), .val (.int r3), .val (.int v4), .val (.int v5), .val (.int v6), .val (.int v7), .val (.ref b14), .val (.ref b15)] [(.int v6), (.int v5), (.int v4), (.int (2 : Int32)), (.int (2 : Int32)), (.ref b15)])
      refine Goes.go (fun _ => XS.iload S.here B.x rfl (B.d at_251) rfl) ?_
      show Goes _ _ _ _ T (mkF me_ 253 #[.val (.int p0), .val (.int p1), .val (.int p2), .val (.int p3), .val (.int p4), .val (.int p5), .val (.int v1), .val (.int (2 : Int32)), .val (.int r3), .val (.int v4), .val (.int v5), .val (.int v6), .val (.int v7), .val (.ref b14), .val (.ref b15)] [(.int v7), (.int v6), (.int v5), (.int v4), (.int (2 : Int32)), (.int (2 : Int32)), (.ref b15)])
      refine Goes.callS (argsL := [(.ref b15), (.int (2 : Int32)), (.int (2 : Int32)), (.int v4), (.int v5), (.int v6), (.int v7)]) (rest := []) (W := 0) S B (rm_ok l Z aw hw b15 (2 : Int32) (2 : Int32) v4 v5 v6 v7 (v1 + (1 : Int32)).toNatClampNeg u16 _ n0 A_b15 (by decide) (own_hN hrg 2)) (w10 hw) (w11 hw) (w12 hw) (w13 hw) (by decide) (by decide) (by decide) (by decide) (by decide) rfl (lenOf pd_3 rfl) rfl (Nat.le_of_eq rfl) at_253 ?_
      intro v T h S hQ
      obtain ⟨rfl, hh⟩ := hQ
      replace hh := hh.symm
      subst hh
      show Goes _ _ _ _ T (mkF me_ 256 #[.val (.int p0), .val (.int p1), .val (.int p2), .val (.int p3), .val (.int p4), .val (.int p5), .val (.int v1), .val (.int (2 : Int32)), .val (.int r3), .val (.int v4), .val (.int v5), .val (.int v6), .val (.int v7), .val (.ref b14), .val (.ref b15)] [(.int (bi ((2 : Int32) < (v1 + (1 : Int32)).toNatClampNeg.toInt32 → u16 (2 : Int32).toNatClampNeg = own_below (2 : Int32) (2 : Int32) v4 v5 v6 v7)))])
      refine Goes.go (fun _ => XS.ifNo S.here B.x rfl (B.d at_256) rfl ((if0 _ _).trans (feq (bi_ne (show (2 : Int32) < (v1 + (1 : Int32)).toNatClampNeg.toInt32 → u16 (2 : Int32).toNatClampNeg = own_below (2 : Int32) (2 : Int32) v4 v5 v6 v7 from fun q => (own_fin hrg hkk hf3_185 2 (by decide) q).trans (own_bel2 _ v4 v5 v6 v7)))).1)) ?_
      show Goes _ _ _ _ T (mkF me_ 259 #[.val (.int p0), .val (.int p1), .val (.int p2), .val (.int p3), .val (.int p4), .val (.int p5), .val (.int v1), .val (.int (2 : Int32)), .val (.int r3), .val (.int v4), .val (.int v5), .val (.int v6), .val (.int v7), .val (.ref b14), .val (.ref b15)] [])
      refine Goes.go (fun _ => XS.aload S.here B.x rfl (B.d at_259) rfl rfl) ?_
      show Goes _ _ _ _ T (mkF me_ 261 #[.val (.int p0), .val (.int p1), .val (.int p2), .val (.int p3), .val (.int p4), .val (.int p5), .val (.int v1), .val (.int (2 : Int32)), .val (.int r3), .val (.int v4), .val (.int v5), .val (.int v6), .val (.int v7), .val (.ref b14), .val (.ref b15)] [(.ref b15)])
      refine Goes.go (fun _ => XS.iconst S.here B.x rfl (B.d at_261)) ?_
      show Goes _ _ _ _ T (mkF me_ 262 #[.val (.int p0), .val (.int p1), .val (.int p2), .val (.int p3), .val (.int p4), .val (.int p5), .val (.int v1), .val (.int (2 : Int32)), .val (.int r3), .val (.int v4), .val (.int v5), .val (.int v6), .val (.int v7), .val (.ref b14), .val (.ref b15)] [(.int (3 : Int32)), (.ref b15)])
      refine Goes.go (fun _ => XS.iload S.here B.x rfl (B.d at_262) rfl) ?_
      show Goes _ _ _ _ T (mkF me_ 264 #[.val (.int p0), .val (.int p1), .val (.int p2), .val (.int p3), .val (.int p4), .val (.int p5), .val (.int v1), .val (.int (2 : Int32)), .val (.int r3), .val (.int v4), .val (.int v5), .val (.int v6), .val (.int v7), .val (.ref b14), .val (.ref b15)] [(.int (2 : Int32)), (.int (3 : Int32)), (.ref b15)])
      refine Goes.go (fun _ => XS.iload S.here B.x rfl (B.d at_264) rfl) ?_
      show Goes _ _ _ _ T (mkF me_ 266 #[.val (.int p0), .val (.int p1), .val (.int p2), .val (.int p3), .val (.int p4), .val (.int p5), .val (.int v1), .val (.int (2 : Int32)), .val (.int r3), .val (.int v4), .val (.int v5), .val (.int v6), .val (.int v7), .val (.ref b14), .val (.ref b15)] [(.int v4), (.int (2 : Int32)), (.int (3 : Int32)), (.ref b15)])
      refine Goes.go (fun _ => XS.iload S.here B.x rfl (B.d at_266) rfl) ?_
      show Goes _ _ _ _ T (mkF me_ 268 #[.val (.int p0), .val (.int p1), .val (.int p2), .val (.int p3), .val (.int p4), .val (.int p5), .val (.int v1), .val (.int (2 : Int32)), .val (.int r3), .val (.int v4), .val (.int v5), .val (.int v6), .val (.int v7), .val (.ref b14), .val (.ref b15)] [(.int v5), (.int v4), (.int (2 : Int32)), (.int (3 : Int32)), (.ref b15)])
      refine Goes.go (fun _ => XS.iload S.here B.x rfl (B.d at_268) rfl) ?_
      show Goes _ _ _ _ T (mkF me_ 270 #[.val (.int p0), .val (.int p1), .val (.int p2), .val (.int p3), .val (.int p4), .val (.int p5), .val (.int v1), .val (.int (2 : Int32)), .val (.int r3), .val (.int v4), .val (.int v5), .val (.int v6), .val (.int v7), .val (.ref b14), .val (.ref b15)] [(.int v6), (.int v5), (.int v4), (.int (2 : Int32)), (.int (3 : Int32)), (.ref b15)])
      refine Goes.go (fun _ => XS.iload S.here B.x rfl (B.d at_270) rfl) ?_
      show Goes _ _ _ _ T (mkF me_ 272 #[.val (.int p0), .val (.int p1), .val (.int p2), .val (.int p3), .val (.int p4), .val (.int p5), .val (.int v1), .val (.int (2 : Int32)), .val (.int r3), .val (.int v4), .val (.int v5), .val (.int v6), .val (.int v7), .val (.ref b14), .val (.ref b15)] [(.int v7), (.int v6), (.int v5), (.int v4), (.int (2 : Int32)), (.int (3 : Int32)), (.ref b15)])
      refine Goes.callS (argsL := [(.ref b15), (.int (3 : Int32)), (.int (2 : Int32)), (.int v4), (.int v5), (.int v6), (.int v7)]) (rest := []) (W := 0) S B (rm_ok l Z aw hw b15 (3 : Int32) (2 : Int32) v4 v5 v6 v7 (v1 + (1 : Int32)).toNatClampNeg u16 _ n0 A_b15 (by decide) (own_hN hrg 3)) (w10 hw) (w11 hw) (w12 hw) (w13 hw) (by decide) (by decide) (by decide) (by decide) (by decide) rfl (lenOf pd_3 rfl) rfl (Nat.le_of_eq rfl) at_272 ?_
      intro v T h S hQ
      obtain ⟨rfl, hh⟩ := hQ
      replace hh := hh.symm
      subst hh
      show Goes _ _ _ _ T (mkF me_ 275 #[.val (.int p0), .val (.int p1), .val (.int p2), .val (.int p3), .val (.int p4), .val (.int p5), .val (.int v1), .val (.int (2 : Int32)), .val (.int r3), .val (.int v4), .val (.int v5), .val (.int v6), .val (.int v7), .val (.ref b14), .val (.ref b15)] [(.int (bi ((3 : Int32) < (v1 + (1 : Int32)).toNatClampNeg.toInt32 → u16 (3 : Int32).toNatClampNeg = own_below (3 : Int32) (2 : Int32) v4 v5 v6 v7)))])
      refine Goes.go (fun _ => XS.ifNo S.here B.x rfl (B.d at_275) rfl ((if0 _ _).trans (feq (bi_ne (show (3 : Int32) < (v1 + (1 : Int32)).toNatClampNeg.toInt32 → u16 (3 : Int32).toNatClampNeg = own_below (3 : Int32) (2 : Int32) v4 v5 v6 v7 from fun q => (own_fin hrg hkk hf3_185 3 (by decide) q).trans (own_bel2 _ v4 v5 v6 v7)))).1)) ?_
      show Goes _ _ _ _ T (mkF me_ 278 #[.val (.int p0), .val (.int p1), .val (.int p2), .val (.int p3), .val (.int p4), .val (.int p5), .val (.int v1), .val (.int (2 : Int32)), .val (.int r3), .val (.int v4), .val (.int v5), .val (.int v6), .val (.int v7), .val (.ref b14), .val (.ref b15)] [])
      refine Goes.go (fun _ => XS.aload S.here B.x rfl (B.d at_278) rfl rfl) ?_
      show Goes _ _ _ _ T (mkF me_ 280 #[.val (.int p0), .val (.int p1), .val (.int p2), .val (.int p3), .val (.int p4), .val (.int p5), .val (.int v1), .val (.int (2 : Int32)), .val (.int r3), .val (.int v4), .val (.int v5), .val (.int v6), .val (.int v7), .val (.ref b14), .val (.ref b15)] [(.ref b15)])
      refine Goes.go (fun _ => XS.iconst S.here B.x rfl (B.d at_280)) ?_
      show Goes _ _ _ _ T (mkF me_ 281 #[.val (.int p0), .val (.int p1), .val (.int p2), .val (.int p3), .val (.int p4), .val (.int p5), .val (.int v1), .val (.int (2 : Int32)), .val (.int r3), .val (.int v4), .val (.int v5), .val (.int v6), .val (.int v7), .val (.ref b14), .val (.ref b15)] [(.int (4 : Int32)), (.ref b15)])
      refine Goes.go (fun _ => XS.iload S.here B.x rfl (B.d at_281) rfl) ?_
      show Goes _ _ _ _ T (mkF me_ 283 #[.val (.int p0), .val (.int p1), .val (.int p2), .val (.int p3), .val (.int p4), .val (.int p5), .val (.int v1), .val (.int (2 : Int32)), .val (.int r3), .val (.int v4), .val (.int v5), .val (.int v6), .val (.int v7), .val (.ref b14), .val (.ref b15)] [(.int (2 : Int32)), (.int (4 : Int32)), (.ref b15)])
      refine Goes.go (fun _ => XS.iload S.here B.x rfl (B.d at_283) rfl) ?_
      show Goes _ _ _ _ T (mkF me_ 285 #[.val (.int p0), .val (.int p1), .val (.int p2), .val (.int p3), .val (.int p4), .val (.int p5), .val (.int v1), .val (.int (2 : Int32)), .val (.int r3), .val (.int v4), .val (.int v5), .val (.int v6), .val (.int v7), .val (.ref b14), .val (.ref b15)] [(.int v4), (.int (2 : Int32)), (.int (4 : Int32)), (.ref b15)])
      refine Goes.go (fun _ => XS.iload S.here B.x rfl (B.d at_285) rfl) ?_
      show Goes _ _ _ _ T (mkF me_ 287 #[.val (.int p0), .val (.int p1), .val (.int p2), .val (.int p3), .val (.int p4), .val (.int p5), .val (.int v1), .val (.int (2 : Int32)), .val (.int r3), .val (.int v4), .val (.int v5), .val (.int v6), .val (.int v7), .val (.ref b14), .val (.ref b15)] [(.int v5), (.int v4), (.int (2 : Int32)), (.int (4 : Int32)), (.ref b15)])
      refine Goes.go (fun _ => XS.iload S.here B.x rfl (B.d at_287) rfl) ?_
      show Goes _ _ _ _ T (mkF me_ 289 #[.val (.int p0), .val (.int p1), .val (.int p2), .val (.int p3), .val (.int p4), .val (.int p5), .val (.int v1), .val (.int (2 : Int32)), .val (.int r3), .val (.int v4), .val (.int v5), .val (.int v6), .val (.int v7), .val (.ref b14), .val (.ref b15)] [(.int v6), (.int v5), (.int v4), (.int (2 : Int32)), (.int (4 : Int32)), (.ref b15)])
      refine Goes.go (fun _ => XS.iload S.here B.x rfl (B.d at_289) rfl) ?_
      show Goes _ _ _ _ T (mkF me_ 291 #[.val (.int p0), .val (.int p1), .val (.int p2), .val (.int p3), .val (.int p4), .val (.int p5), .val (.int v1), .val (.int (2 : Int32)), .val (.int r3), .val (.int v4), .val (.int v5), .val (.int v6), .val (.int v7), .val (.ref b14), .val (.ref b15)] [(.int v7), (.int v6), (.int v5), (.int v4), (.int (2 : Int32)), (.int (4 : Int32)), (.ref b15)])
      refine Goes.callS (argsL := [(.ref b15), (.int (4 : Int32)), (.int (2 : Int32)), (.int v4), (.int v5), (.int v6), (.int v7)]) (rest := []) (W := 0) S B (rm_ok l Z aw hw b15 (4 : Int32) (2 : Int32) v4 v5 v6 v7 (v1 + (1 : Int32)).toNatClampNeg u16 _ n0 A_b15 (by decide) (own_hN hrg 4)) (w10 hw) (w11 hw) (w12 hw) (w13 hw) (by decide) (by decide) (by decide) (by decide) (by decide) rfl (lenOf pd_3 rfl) rfl (Nat.le_of_eq rfl) at_291 ?_
      intro v T h S hQ
      obtain ⟨rfl, hh⟩ := hQ
      replace hh := hh.symm
      subst hh
      show Goes _ _ _ _ T (mkF me_ 294 #[.val (.int p0), .val (.int p1), .val (.int p2), .val (.int p3), .val (.int p4), .val (.int p5), .val (.int v1), .val (.int (2 : Int32)), .val (.int r3), .val (.int v4), .val (.int v5), .val (.int v6), .val (.int v7), .val (.ref b14), .val (.ref b15)] [(.int (bi ((4 : Int32) < (v1 + (1 : Int32)).toNatClampNeg.toInt32 → u16 (4 : Int32).toNatClampNeg = own_below (4 : Int32) (2 : Int32) v4 v5 v6 v7)))])
      refine Goes.go (fun _ => XS.ifNo S.here B.x rfl (B.d at_294) rfl ((if0 _ _).trans (feq (bi_ne (show (4 : Int32) < (v1 + (1 : Int32)).toNatClampNeg.toInt32 → u16 (4 : Int32).toNatClampNeg = own_below (4 : Int32) (2 : Int32) v4 v5 v6 v7 from fun q => (own_fin hrg hkk hf3_185 4 (by decide) q).trans (own_bel2 _ v4 v5 v6 v7)))).1)) ?_
      show Goes _ _ _ _ T (mkF me_ 297 #[.val (.int p0), .val (.int p1), .val (.int p2), .val (.int p3), .val (.int p4), .val (.int p5), .val (.int v1), .val (.int (2 : Int32)), .val (.int r3), .val (.int v4), .val (.int v5), .val (.int v6), .val (.int v7), .val (.ref b14), .val (.ref b15)] [])
      refine Goes.go (fun _ => XS.iconst S.here B.x rfl (B.d at_297)) ?_
      show Goes _ _ _ _ T (mkF me_ 298 #[.val (.int p0), .val (.int p1), .val (.int p2), .val (.int p3), .val (.int p4), .val (.int p5), .val (.int v1), .val (.int (2 : Int32)), .val (.int r3), .val (.int v4), .val (.int v5), .val (.int v6), .val (.int v7), .val (.ref b14), .val (.ref b15)] [(.int (1 : Int32))])
      refine Goes.go (fun _ => XS.goto S.here B.x rfl (pc0 := 298) (pc' := 302) rfl (B.d at_298) (by decide) (by decide)) ?_
      show Goes _ _ _ _ T (mkF me_ 302 #[.val (.int p0), .val (.int p1), .val (.int p2), .val (.int p3), .val (.int p4), .val (.int p5), .val (.int v1), .val (.int (2 : Int32)), .val (.int r3), .val (.int v4), .val (.int v5), .val (.int v6), .val (.int v7), .val (.ref b14), .val (.ref b15)] [(.int (1 : Int32))])
      refine Goes.retN S B (by simp) at_302 (by decide) (by decide) ?_
      exact rfl
    · skip
      show Goes _ _ _ _ T (mkF me_ 71 #[.val (.int p0), .val (.int p1), .val (.int p2), .val (.int p3), .val (.int p4), .val (.int p5), .val (.int v1), .val (.int (3 : Int32)), .val (.int r3), .val (.int v4), .val (.int v5), .val (.int v6), .val (.int v7), .unset, .unset] [])
      refine Goes.go (fun _ => XS.iload S.here B.x rfl (B.d at_71) rfl) ?_
      show Goes _ _ _ _ T (mkF me_ 73 #[.val (.int p0), .val (.int p1), .val (.int p2), .val (.int p3), .val (.int p4), .val (.int p5), .val (.int v1), .val (.int (3 : Int32)), .val (.int r3), .val (.int v4), .val (.int v5), .val (.int v6), .val (.int v7), .unset, .unset] [(.int (3 : Int32))])
      refine Goes.go (fun _ => XS.ifYes S.here B.x rfl (pc0 := 73) (pc' := 84) rfl (B.d at_73) rfl (by decide) (by decide) (by decide)) ?_
      show Goes _ _ _ _ T (mkF me_ 84 #[.val (.int p0), .val (.int p1), .val (.int p2), .val (.int p3), .val (.int p4), .val (.int p5), .val (.int v1), .val (.int (3 : Int32)), .val (.int r3), .val (.int v4), .val (.int v5), .val (.int v6), .val (.int v7), .unset, .unset] [])
      refine Goes.go (fun _ => XS.iload S.here B.x rfl (B.d at_84) rfl) ?_
      show Goes _ _ _ _ T (mkF me_ 86 #[.val (.int p0), .val (.int p1), .val (.int p2), .val (.int p3), .val (.int p4), .val (.int p5), .val (.int v1), .val (.int (3 : Int32)), .val (.int r3), .val (.int v4), .val (.int v5), .val (.int v6), .val (.int v7), .unset, .unset] [(.int (3 : Int32))])
      refine Goes.go (fun _ => XS.iconst S.here B.x rfl (B.d at_86)) ?_
      show Goes _ _ _ _ T (mkF me_ 87 #[.val (.int p0), .val (.int p1), .val (.int p2), .val (.int p3), .val (.int p4), .val (.int p5), .val (.int v1), .val (.int (3 : Int32)), .val (.int r3), .val (.int v4), .val (.int v5), .val (.int v6), .val (.int v7), .unset, .unset] [(.int (1 : Int32)), (.int (3 : Int32))])
      refine Goes.go (fun _ => XS.icmpYes S.here B.x rfl (pc0 := 87) (pc' := 103) rfl (B.d at_87) rfl (by decide) (by decide) (by decide)) ?_
      show Goes _ _ _ _ T (mkF me_ 103 #[.val (.int p0), .val (.int p1), .val (.int p2), .val (.int p3), .val (.int p4), .val (.int p5), .val (.int v1), .val (.int (3 : Int32)), .val (.int r3), .val (.int v4), .val (.int v5), .val (.int v6), .val (.int v7), .unset, .unset] [])
      refine Goes.go (fun _ => XS.iload S.here B.x rfl (B.d at_103) rfl) ?_
      show Goes _ _ _ _ T (mkF me_ 105 #[.val (.int p0), .val (.int p1), .val (.int p2), .val (.int p3), .val (.int p4), .val (.int p5), .val (.int v1), .val (.int (3 : Int32)), .val (.int r3), .val (.int v4), .val (.int v5), .val (.int v6), .val (.int v7), .unset, .unset] [(.int (3 : Int32))])
      refine Goes.go (fun _ => XS.iconst S.here B.x rfl (B.d at_105)) ?_
      show Goes _ _ _ _ T (mkF me_ 106 #[.val (.int p0), .val (.int p1), .val (.int p2), .val (.int p3), .val (.int p4), .val (.int p5), .val (.int v1), .val (.int (3 : Int32)), .val (.int r3), .val (.int v4), .val (.int v5), .val (.int v6), .val (.int v7), .unset, .unset] [(.int (2 : Int32)), (.int (3 : Int32))])
      refine Goes.go (fun _ => XS.icmpYes S.here B.x rfl (pc0 := 106) (pc' := 127) rfl (B.d at_106) rfl (by decide) (by decide) (by decide)) ?_
      show Goes _ _ _ _ T (mkF me_ 127 #[.val (.int p0), .val (.int p1), .val (.int p2), .val (.int p3), .val (.int p4), .val (.int p5), .val (.int v1), .val (.int (3 : Int32)), .val (.int r3), .val (.int v4), .val (.int v5), .val (.int v6), .val (.int v7), .unset, .unset] [])
      refine Goes.go (fun _ => XS.iload S.here B.x rfl (B.d at_127) rfl) ?_
      show Goes _ _ _ _ T (mkF me_ 129 #[.val (.int p0), .val (.int p1), .val (.int p2), .val (.int p3), .val (.int p4), .val (.int p5), .val (.int v1), .val (.int (3 : Int32)), .val (.int r3), .val (.int v4), .val (.int v5), .val (.int v6), .val (.int v7), .unset, .unset] [(.int (3 : Int32))])
      refine Goes.go (fun _ => XS.iconst S.here B.x rfl (B.d at_129)) ?_
      show Goes _ _ _ _ T (mkF me_ 130 #[.val (.int p0), .val (.int p1), .val (.int p2), .val (.int p3), .val (.int p4), .val (.int p5), .val (.int v1), .val (.int (3 : Int32)), .val (.int r3), .val (.int v4), .val (.int v5), .val (.int v6), .val (.int v7), .unset, .unset] [(.int (3 : Int32)), (.int (3 : Int32))])
      refine Goes.go (fun _ => XS.icmpNo S.here B.x rfl (B.d at_130) rfl (by decide)) ?_
      show Goes _ _ _ _ T (mkF me_ 133 #[.val (.int p0), .val (.int p1), .val (.int p2), .val (.int p3), .val (.int p4), .val (.int p5), .val (.int v1), .val (.int (3 : Int32)), .val (.int r3), .val (.int v4), .val (.int v5), .val (.int v6), .val (.int v7), .unset, .unset] [])
      refine Goes.go (fun _ => XS.iconst S.here B.x rfl (B.d at_133)) ?_
      show Goes _ _ _ _ T (mkF me_ 134 #[.val (.int p0), .val (.int p1), .val (.int p2), .val (.int p3), .val (.int p4), .val (.int p5), .val (.int v1), .val (.int (3 : Int32)), .val (.int r3), .val (.int v4), .val (.int v5), .val (.int v6), .val (.int v7), .unset, .unset] [(.int (3 : Int32))])
      refine Goes.newP (aty := .int) (cap := 3) S B (w5 hw) at_134 (by decide) (by decide) (by decide) (by decide) (by decide) ?_
      intro T h b17 S X zb g_b17 A_b17
      replace A_b17 : Ary Z h b17 .int 3 (fun i => (.int ((fun _ => 0) i))) := A_b17
      show Goes _ _ _ _ T (mkF me_ 136 #[.val (.int p0), .val (.int p1), .val (.int p2), .val (.int p3), .val (.int p4), .val (.int p5), .val (.int v1), .val (.int (3 : Int32)), .val (.int r3), .val (.int v4), .val (.int v5), .val (.int v6), .val (.int v7), .unset, .unset] [(.ref b17)])
      refine Goes.go (fun _ => XS.dup S.here B.x rfl (B.d at_136) rfl rfl) ?_
      show Goes _ _ _ _ T (mkF me_ 137 #[.val (.int p0), .val (.int p1), .val (.int p2), .val (.int p3), .val (.int p4), .val (.int p5), .val (.int v1), .val (.int (3 : Int32)), .val (.int r3), .val (.int v4), .val (.int v5), .val (.int v6), .val (.int v7), .unset, .unset] [(.ref b17), (.ref b17)])
      refine Goes.go (fun _ => XS.iconst S.here B.x rfl (B.d at_137)) ?_
      show Goes _ _ _ _ T (mkF me_ 138 #[.val (.int p0), .val (.int p1), .val (.int p2), .val (.int p3), .val (.int p4), .val (.int p5), .val (.int v1), .val (.int (3 : Int32)), .val (.int r3), .val (.int v4), .val (.int v5), .val (.int v6), .val (.int v7), .unset, .unset] [(.int (0 : Int32)), (.ref b17), (.ref b17)])
      refine Goes.go (fun _ => XS.iload S.here B.x rfl (B.d at_138) rfl) ?_
      show Goes _ _ _ _ T (mkF me_ 140 #[.val (.int p0), .val (.int p1), .val (.int p2), .val (.int p3), .val (.int p4), .val (.int p5), .val (.int v1), .val (.int (3 : Int32)), .val (.int r3), .val (.int v4), .val (.int v5), .val (.int v6), .val (.int v7), .unset, .unset] [(.int v4), (.int (0 : Int32)), (.ref b17), (.ref b17)])
      refine Goes.iastore S B A_b17 (by decide) (by decide) g_b17 at_140 ?_
      intro T h S W A_b17
      replace A_b17 : Ary Z h b17 .int 3 (aup (fun i => (.int ((fun _ => 0) i))) 0 (.int v4)) := A_b17
      rw [aup_int] at A_b17
      show Goes _ _ _ _ T (mkF me_ 141 #[.val (.int p0), .val (.int p1), .val (.int p2), .val (.int p3), .val (.int p4), .val (.int p5), .val (.int v1), .val (.int (3 : Int32)), .val (.int r3), .val (.int v4), .val (.int v5), .val (.int v6), .val (.int v7), .unset, .unset] [(.ref b17)])
      refine Goes.go (fun _ => XS.dup S.here B.x rfl (B.d at_141) rfl rfl) ?_
      show Goes _ _ _ _ T (mkF me_ 142 #[.val (.int p0), .val (.int p1), .val (.int p2), .val (.int p3), .val (.int p4), .val (.int p5), .val (.int v1), .val (.int (3 : Int32)), .val (.int r3), .val (.int v4), .val (.int v5), .val (.int v6), .val (.int v7), .unset, .unset] [(.ref b17), (.ref b17)])
      refine Goes.go (fun _ => XS.iconst S.here B.x rfl (B.d at_142)) ?_
      show Goes _ _ _ _ T (mkF me_ 143 #[.val (.int p0), .val (.int p1), .val (.int p2), .val (.int p3), .val (.int p4), .val (.int p5), .val (.int v1), .val (.int (3 : Int32)), .val (.int r3), .val (.int v4), .val (.int v5), .val (.int v6), .val (.int v7), .unset, .unset] [(.int (1 : Int32)), (.ref b17), (.ref b17)])
      refine Goes.go (fun _ => XS.iload S.here B.x rfl (B.d at_143) rfl) ?_
      show Goes _ _ _ _ T (mkF me_ 145 #[.val (.int p0), .val (.int p1), .val (.int p2), .val (.int p3), .val (.int p4), .val (.int p5), .val (.int v1), .val (.int (3 : Int32)), .val (.int r3), .val (.int v4), .val (.int v5), .val (.int v6), .val (.int v7), .unset, .unset] [(.int v5), (.int (1 : Int32)), (.ref b17), (.ref b17)])
      refine Goes.iastore S B A_b17 (by decide) (by decide) g_b17 at_145 ?_
      intro T h S W A_b17
      replace A_b17 : Ary Z h b17 .int 3 (aup (fun i => (.int ((aup (fun _ => 0) 0 v4) i))) 1 (.int v5)) := A_b17
      rw [aup_int] at A_b17
      show Goes _ _ _ _ T (mkF me_ 146 #[.val (.int p0), .val (.int p1), .val (.int p2), .val (.int p3), .val (.int p4), .val (.int p5), .val (.int v1), .val (.int (3 : Int32)), .val (.int r3), .val (.int v4), .val (.int v5), .val (.int v6), .val (.int v7), .unset, .unset] [(.ref b17)])
      refine Goes.go (fun _ => XS.dup S.here B.x rfl (B.d at_146) rfl rfl) ?_
      show Goes _ _ _ _ T (mkF me_ 147 #[.val (.int p0), .val (.int p1), .val (.int p2), .val (.int p3), .val (.int p4), .val (.int p5), .val (.int v1), .val (.int (3 : Int32)), .val (.int r3), .val (.int v4), .val (.int v5), .val (.int v6), .val (.int v7), .unset, .unset] [(.ref b17), (.ref b17)])
      refine Goes.go (fun _ => XS.iconst S.here B.x rfl (B.d at_147)) ?_
      show Goes _ _ _ _ T (mkF me_ 148 #[.val (.int p0), .val (.int p1), .val (.int p2), .val (.int p3), .val (.int p4), .val (.int p5), .val (.int v1), .val (.int (3 : Int32)), .val (.int r3), .val (.int v4), .val (.int v5), .val (.int v6), .val (.int v7), .unset, .unset] [(.int (2 : Int32)), (.ref b17), (.ref b17)])
      refine Goes.go (fun _ => XS.iload S.here B.x rfl (B.d at_148) rfl) ?_
      show Goes _ _ _ _ T (mkF me_ 150 #[.val (.int p0), .val (.int p1), .val (.int p2), .val (.int p3), .val (.int p4), .val (.int p5), .val (.int v1), .val (.int (3 : Int32)), .val (.int r3), .val (.int v4), .val (.int v5), .val (.int v6), .val (.int v7), .unset, .unset] [(.int v6), (.int (2 : Int32)), (.ref b17), (.ref b17)])
      refine Goes.iastore S B A_b17 (by decide) (by decide) g_b17 at_150 ?_
      intro T h S W A_b17
      replace A_b17 : Ary Z h b17 .int 3 (aup (fun i => (.int ((aup (aup (fun _ => 0) 0 v4) 1 v5) i))) 2 (.int v6)) := A_b17
      rw [aup_int] at A_b17
      show Goes _ _ _ _ T (mkF me_ 151 #[.val (.int p0), .val (.int p1), .val (.int p2), .val (.int p3), .val (.int p4), .val (.int p5), .val (.int v1), .val (.int (3 : Int32)), .val (.int r3), .val (.int v4), .val (.int v5), .val (.int v6), .val (.int v7), .unset, .unset] [(.ref b17)])
      refine Goes.go (fun _ => XS.astore S.here B.x rfl (B.d at_151) rfl rfl (l' := #[.val (.int p0), .val (.int p1), .val (.int p2), .val (.int p3), .val (.int p4), .val (.int p5), .val (.int v1), .val (.int (3 : Int32)), .val (.int r3), .val (.int v4), .val (.int v5), .val (.int v6), .val (.int v7), .val (.ref b17), .unset]) rfl) ?_
      show Goes _ _ _ _ T (mkF me_ 153 #[.val (.int p0), .val (.int p1), .val (.int p2), .val (.int p3), .val (.int p4), .val (.int p5), .val (.int v1), .val (.int (3 : Int32)), .val (.int r3), .val (.int v4), .val (.int v5), .val (.int v6), .val (.int v7), .val (.ref b17), .unset] [])
      refine Goes.go (fun _ => XS.goto S.here B.x rfl (pc0 := 153) (pc' := 181) rfl (B.d at_153) (by decide) (by decide)) ?_
      show Goes _ _ _ _ T (mkF me_ 181 #[.val (.int p0), .val (.int p1), .val (.int p2), .val (.int p3), .val (.int p4), .val (.int p5), .val (.int v1), .val (.int (3 : Int32)), .val (.int r3), .val (.int v4), .val (.int v5), .val (.int v6), .val (.int v7), .val (.ref b17), .unset] [])
      refine Goes.go (fun _ => XS.aload S.here B.x rfl (B.d at_181) rfl rfl) ?_
      show Goes _ _ _ _ T (mkF me_ 183 #[.val (.int p0), .val (.int p1), .val (.int p2), .val (.int p3), .val (.int p4), .val (.int p5), .val (.int v1), .val (.int (3 : Int32)), .val (.int r3), .val (.int v4), .val (.int v5), .val (.int v6), .val (.int v7), .val (.ref b17), .unset] [(.ref b17)])
      refine Goes.go (fun _ => XS.iload S.here B.x rfl (B.d at_183) rfl) ?_
      show Goes _ _ _ _ T (mkF me_ 185 #[.val (.int p0), .val (.int p1), .val (.int p2), .val (.int p3), .val (.int p4), .val (.int p5), .val (.int v1), .val (.int (3 : Int32)), .val (.int r3), .val (.int v4), .val (.int v5), .val (.int v6), .val (.int v7), .val (.ref b17), .unset] [(.int v1), (.ref b17)])
      have zle := S.le
      refine Goes.callS (argsL := [(.ref b17), (.int v1)]) (rest := []) (W := 0) S B (rm_rs l Z aw hw b17 v1 3 (aup (aup (aup (fun _ => 0) 0 v4) 1 v5) 2 v6) _ n0 A_b17 hrg (by decide) (own_k3 (own_kr hrg (fun q => by have := hc7.2.2 q; revert this; decide) hr3 hv4) (own_kr hrg (fun q => by have := hc7.2.2 q; revert this; decide) hr3 hv5) (own_kr hrg (fun q => by have := hc7.2.2 q; revert this; decide) hr3 hv6))) (w6 hw) (w7 hw) (w8 hw) (w9 hw) (by decide) (by decide) (by decide) (by decide) (by decide) rfl (lenOf pd_2 rfl) rfl (Nat.le_of_eq rfl) at_185 ?_
      intro v T h S hQ
      obtain ⟨b18, u19, rfl, zb, Kc, A_b18', hf3_185⟩ := hQ
      have ne_b17__b18 : b17 ≠ b18 := Nat.ne_of_lt (Nat.lt_of_lt_of_le A_b17.lt zb)
      have g_b18 : n0 ≤ b18 := Nat.le_trans zle zb
      replace A_b17 := A_b17.keep Kc nin0
      have A_b18 := A_b18'
      show Goes _ _ _ _ T (mkF me_ 188 #[.val (.int p0), .val (.int p1), .val (.int p2), .val (.int p3), .val (.int p4), .val (.int p5), .val (.int v1), .val (.int (3 : Int32)), .val (.int r3), .val (.int v4), .val (.int v5), .val (.int v6), .val (.int v7), .val (.ref b17), .unset] [(.ref b18)])
      have hkk := (own_k3 (own_kr hrg (fun q => by have := hc7.2.2 q; revert this; decide) hr3 hv4) (own_kr hrg (fun q => by have := hc7.2.2 q; revert this; decide) hr3 hv5) (own_kr hrg (fun q => by have := hc7.2.2 q; revert this; decide) hr3 hv6))
      refine Goes.go (fun _ => XS.astore S.here B.x rfl (B.d at_188) rfl rfl (l' := #[.val (.int p0), .val (.int p1), .val (.int p2), .val (.int p3), .val (.int p4), .val (.int p5), .val (.int v1), .val (.int (3 : Int32)), .val (.int r3), .val (.int v4), .val (.int v5), .val (.int v6), .val (.int v7), .val (.ref b17), .val (.ref b18)]) rfl) ?_
      show Goes _ _ _ _ T (mkF me_ 190 #[.val (.int p0), .val (.int p1), .val (.int p2), .val (.int p3), .val (.int p4), .val (.int p5), .val (.int v1), .val (.int (3 : Int32)), .val (.int r3), .val (.int v4), .val (.int v5), .val (.int v6), .val (.int v7), .val (.ref b17), .val (.ref b18)] [])
      refine Goes.go (fun _ => XS.aload S.here B.x rfl (B.d at_190) rfl rfl) ?_
      show Goes _ _ _ _ T (mkF me_ 192 #[.val (.int p0), .val (.int p1), .val (.int p2), .val (.int p3), .val (.int p4), .val (.int p5), .val (.int v1), .val (.int (3 : Int32)), .val (.int r3), .val (.int v4), .val (.int v5), .val (.int v6), .val (.int v7), .val (.ref b17), .val (.ref b18)] [(.ref b18)])
      refine Goes.alen S B A_b18 (z := (v1 + (1 : Int32))) (back32 (own_np hrg).1).1 at_192 ?_
      show Goes _ _ _ _ T (mkF me_ 193 #[.val (.int p0), .val (.int p1), .val (.int p2), .val (.int p3), .val (.int p4), .val (.int p5), .val (.int v1), .val (.int (3 : Int32)), .val (.int r3), .val (.int v4), .val (.int v5), .val (.int v6), .val (.int v7), .val (.ref b17), .val (.ref b18)] [(.int (v1 + (1 : Int32)))])
      refine Goes.go (fun _ => XS.iload S.here B.x rfl (B.d at_193) rfl) ?_
      show Goes _ _ _ _ T (mkF me_ 195 #[.val (.int p0), .val (.int p1), .val (.int p2), .val (.int p3), .val (.int p4), .val (.int p5), .val (.int v1), .val (.int (3 : Int32)), .val (.int r3), .val (.int v4), .val (.int v5), .val (.int v6), .val (.int v7), .val (.ref b17), .val (.ref b18)] [(.int v1), (.int (v1 + (1 : Int32)))])
      refine Goes.go (fun _ => XS.iconst S.here B.x rfl (B.d at_195)) ?_
      show Goes _ _ _ _ T (mkF me_ 196 #[.val (.int p0), .val (.int p1), .val (.int p2), .val (.int p3), .val (.int p4), .val (.int p5), .val (.int v1), .val (.int (3 : Int32)), .val (.int r3), .val (.int v4), .val (.int v5), .val (.int v6), .val (.int v7), .val (.ref b17), .val (.ref b18)] [(.int (1 : Int32)), (.int v1), (.int (v1 + (1 : Int32)))])
      refine Goes.go (fun _ => XS.iadd S.here B.x rfl (B.d at_196) rfl) ?_
      show Goes _ _ _ _ T (mkF me_ 197 #[.val (.int p0), .val (.int p1), .val (.int p2), .val (.int p3), .val (.int p4), .val (.int p5), .val (.int v1), .val (.int (3 : Int32)), .val (.int r3), .val (.int v4), .val (.int v5), .val (.int v6), .val (.int v7), .val (.ref b17), .val (.ref b18)] [(.int (v1 + (1 : Int32))), (.int (v1 + (1 : Int32)))])
      refine Goes.go (fun _ => XS.icmpYes S.here B.x rfl (pc0 := 197) (pc' := 202) rfl (B.d at_197) rfl (teq (rfl : (v1 + (1 : Int32)) = (v1 + (1 : Int32)))).1 (by decide) (by decide)) ?_
      show Goes _ _ _ _ T (mkF me_ 202 #[.val (.int p0), .val (.int p1), .val (.int p2), .val (.int p3), .val (.int p4), .val (.int p5), .val (.int v1), .val (.int (3 : Int32)), .val (.int r3), .val (.int v4), .val (.int v5), .val (.int v6), .val (.int v7), .val (.ref b17), .val (.ref b18)] [])
      refine Goes.go (fun _ => XS.aload S.here B.x rfl (B.d at_202) rfl rfl) ?_
      show Goes _ _ _ _ T (mkF me_ 204 #[.val (.int p0), .val (.int p1), .val (.int p2), .val (.int p3), .val (.int p4), .val (.int p5), .val (.int v1), .val (.int (3 : Int32)), .val (.int r3), .val (.int v4), .val (.int v5), .val (.int v6), .val (.int v7), .val (.ref b17), .val (.ref b18)] [(.ref b18)])
      refine Goes.go (fun _ => XS.iconst S.here B.x rfl (B.d at_204)) ?_
      show Goes _ _ _ _ T (mkF me_ 205 #[.val (.int p0), .val (.int p1), .val (.int p2), .val (.int p3), .val (.int p4), .val (.int p5), .val (.int v1), .val (.int (3 : Int32)), .val (.int r3), .val (.int v4), .val (.int v5), .val (.int v6), .val (.int v7), .val (.ref b17), .val (.ref b18)] [(.int (0 : Int32)), (.ref b18)])
      refine Goes.go (fun _ => XS.iload S.here B.x rfl (B.d at_205) rfl) ?_
      show Goes _ _ _ _ T (mkF me_ 207 #[.val (.int p0), .val (.int p1), .val (.int p2), .val (.int p3), .val (.int p4), .val (.int p5), .val (.int v1), .val (.int (3 : Int32)), .val (.int r3), .val (.int v4), .val (.int v5), .val (.int v6), .val (.int v7), .val (.ref b17), .val (.ref b18)] [(.int (3 : Int32)), (.int (0 : Int32)), (.ref b18)])
      refine Goes.go (fun _ => XS.iload S.here B.x rfl (B.d at_207) rfl) ?_
      show Goes _ _ _ _ T (mkF me_ 209 #[.val (.int p0), .val (.int p1), .val (.int p2), .val (.int p3), .val (.int p4), .val (.int p5), .val (.int v1), .val (.int (3 : Int32)), .val (.int r3), .val (.int v4), .val (.int v5), .val (.int v6), .val (.int v7), .val (.ref b17), .val (.ref b18)] [(.int v4), (.int (3 : Int32)), (.int (0 : Int32)), (.ref b18)])
      refine Goes.go (fun _ => XS.iload S.here B.x rfl (B.d at_209) rfl) ?_
      show Goes _ _ _ _ T (mkF me_ 211 #[.val (.int p0), .val (.int p1), .val (.int p2), .val (.int p3), .val (.int p4), .val (.int p5), .val (.int v1), .val (.int (3 : Int32)), .val (.int r3), .val (.int v4), .val (.int v5), .val (.int v6), .val (.int v7), .val (.ref b17), .val (.ref b18)] [(.int v5), (.int v4), (.int (3 : Int32)), (.int (0 : Int32)), (.ref b18)])
      refine Goes.go (fun _ => XS.iload S.here B.x rfl (B.d at_211) rfl) ?_
      show Goes _ _ _ _ T (mkF me_ 213 #[.val (.int p0), .val (.int p1), .val (.int p2), .val (.int p3), .val (.int p4), .val (.int p5), .val (.int v1), .val (.int (3 : Int32)), .val (.int r3), .val (.int v4), .val (.int v5), .val (.int v6), .val (.int v7), .val (.ref b17), .val (.ref b18)] [(.int v6), (.int v5), (.int v4), (.int (3 : Int32)), (.int (0 : Int32)), (.ref b18)])
      refine Goes.go (fun _ => XS.iload S.here B.x rfl (B.d at_213) rfl) ?_
      show Goes _ _ _ _ T (mkF me_ 215 #[.val (.int p0), .val (.int p1), .val (.int p2), .val (.int p3), .val (.int p4), .val (.int p5), .val (.int v1), .val (.int (3 : Int32)), .val (.int r3), .val (.int v4), .val (.int v5), .val (.int v6), .val (.int v7), .val (.ref b17), .val (.ref b18)] [(.int v7), (.int v6), (.int v5), (.int v4), (.int (3 : Int32)), (.int (0 : Int32)), (.ref b18)])
      refine Goes.callS (argsL := [(.ref b18), (.int (0 : Int32)), (.int (3 : Int32)), (.int v4), (.int v5), (.int v6), (.int v7)]) (rest := []) (W := 0) S B (rm_ok l Z aw hw b18 (0 : Int32) (3 : Int32) v4 v5 v6 v7 (v1 + (1 : Int32)).toNatClampNeg u19 _ n0 A_b18 (by decide) (own_hN hrg 0)) (w10 hw) (w11 hw) (w12 hw) (w13 hw) (by decide) (by decide) (by decide) (by decide) (by decide) rfl (lenOf pd_3 rfl) rfl (Nat.le_of_eq rfl) at_215 ?_
      intro v T h S hQ
      obtain ⟨rfl, hh⟩ := hQ
      replace hh := hh.symm
      subst hh
      show Goes _ _ _ _ T (mkF me_ 218 #[.val (.int p0), .val (.int p1), .val (.int p2), .val (.int p3), .val (.int p4), .val (.int p5), .val (.int v1), .val (.int (3 : Int32)), .val (.int r3), .val (.int v4), .val (.int v5), .val (.int v6), .val (.int v7), .val (.ref b17), .val (.ref b18)] [(.int (bi ((0 : Int32) < (v1 + (1 : Int32)).toNatClampNeg.toInt32 → u19 (0 : Int32).toNatClampNeg = own_below (0 : Int32) (3 : Int32) v4 v5 v6 v7)))])
      refine Goes.go (fun _ => XS.ifNo S.here B.x rfl (B.d at_218) rfl ((if0 _ _).trans (feq (bi_ne (show (0 : Int32) < (v1 + (1 : Int32)).toNatClampNeg.toInt32 → u19 (0 : Int32).toNatClampNeg = own_below (0 : Int32) (3 : Int32) v4 v5 v6 v7 from fun q => (own_fin hrg hkk hf3_185 0 (by decide) q).trans (own_bel3 _ v4 v5 v6 v7)))).1)) ?_
      show Goes _ _ _ _ T (mkF me_ 221 #[.val (.int p0), .val (.int p1), .val (.int p2), .val (.int p3), .val (.int p4), .val (.int p5), .val (.int v1), .val (.int (3 : Int32)), .val (.int r3), .val (.int v4), .val (.int v5), .val (.int v6), .val (.int v7), .val (.ref b17), .val (.ref b18)] [])
      refine Goes.go (fun _ => XS.aload S.here B.x rfl (B.d at_221) rfl rfl) ?_
      show Goes _ _ _ _ T (mkF me_ 223 #[.val (.int p0), .val (.int p1), .val (.int p2), .val (.int p3), .val (.int p4), .val (.int p5), .val (.int v1), .val (.int (3 : Int32)), .val (.int r3), .val (.int v4), .val (.int v5), .val (.int v6), .val (.int v7), .val (.ref b17), .val (.ref b18)] [(.ref b18)])
      refine Goes.go (fun _ => XS.iconst S.here B.x rfl (B.d at_223)) ?_
      show Goes _ _ _ _ T (mkF me_ 224 #[.val (.int p0), .val (.int p1), .val (.int p2), .val (.int p3), .val (.int p4), .val (.int p5), .val (.int v1), .val (.int (3 : Int32)), .val (.int r3), .val (.int v4), .val (.int v5), .val (.int v6), .val (.int v7), .val (.ref b17), .val (.ref b18)] [(.int (1 : Int32)), (.ref b18)])
      refine Goes.go (fun _ => XS.iload S.here B.x rfl (B.d at_224) rfl) ?_
      show Goes _ _ _ _ T (mkF me_ 226 #[.val (.int p0), .val (.int p1), .val (.int p2), .val (.int p3), .val (.int p4), .val (.int p5), .val (.int v1), .val (.int (3 : Int32)), .val (.int r3), .val (.int v4), .val (.int v5), .val (.int v6), .val (.int v7), .val (.ref b17), .val (.ref b18)] [(.int (3 : Int32)), (.int (1 : Int32)), (.ref b18)])
      refine Goes.go (fun _ => XS.iload S.here B.x rfl (B.d at_226) rfl) ?_
      show Goes _ _ _ _ T (mkF me_ 228 #[.val (.int p0), .val (.int p1), .val (.int p2), .val (.int p3), .val (.int p4), .val (.int p5), .val (.int v1), .val (.int (3 : Int32)), .val (.int r3), .val (.int v4), .val (.int v5), .val (.int v6), .val (.int v7), .val (.ref b17), .val (.ref b18)] [(.int v4), (.int (3 : Int32)), (.int (1 : Int32)), (.ref b18)])
      refine Goes.go (fun _ => XS.iload S.here B.x rfl (B.d at_228) rfl) ?_
      show Goes _ _ _ _ T (mkF me_ 230 #[.val (.int p0), .val (.int p1), .val (.int p2), .val (.int p3), .val (.int p4), .val (.int p5), .val (.int v1), .val (.int (3 : Int32)), .val (.int r3), .val (.int v4), .val (.int v5), .val (.int v6), .val (.int v7), .val (.ref b17), .val (.ref b18)] [(.int v5), (.int v4), (.int (3 : Int32)), (.int (1 : Int32)), (.ref b18)])
      refine Goes.go (fun _ => XS.iload S.here B.x rfl (B.d at_230) rfl) ?_
      show Goes _ _ _ _ T (mkF me_ 232 #[.val (.int p0), .val (.int p1), .val (.int p2), .val (.int p3), .val (.int p4), .val (.int p5), .val (.int v1), .val (.int (3 : Int32)), .val (.int r3), .val (.int v4), .val (.int v5), .val (.int v6), .val (.int v7), .val (.ref b17), .val (.ref b18)] [(.int v6), (.int v5), (.int v4), (.int (3 : Int32)), (.int (1 : Int32)), (.ref b18)])
      refine Goes.go (fun _ => XS.iload S.here B.x rfl (B.d at_232) rfl) ?_
      show Goes _ _ _ _ T (mkF me_ 234 #[.val (.int p0), .val (.int p1), .val (.int p2), .val (.int p3), .val (.int p4), .val (.int p5), .val (.int v1), .val (.int (3 : Int32)), .val (.int r3), .val (.int v4), .val (.int v5), .val (.int v6), .val (.int v7), .val (.ref b17), .val (.ref b18)] [(.int v7), (.int v6), (.int v5), (.int v4), (.int (3 : Int32)), (.int (1 : Int32)), (.ref b18)])
      refine Goes.callS (argsL := [(.ref b18), (.int (1 : Int32)), (.int (3 : Int32)), (.int v4), (.int v5), (.int v6), (.int v7)]) (rest := []) (W := 0) S B (rm_ok l Z aw hw b18 (1 : Int32) (3 : Int32) v4 v5 v6 v7 (v1 + (1 : Int32)).toNatClampNeg u19 _ n0 A_b18 (by decide) (own_hN hrg 1)) (w10 hw) (w11 hw) (w12 hw) (w13 hw) (by decide) (by decide) (by decide) (by decide) (by decide) rfl (lenOf pd_3 rfl) rfl (Nat.le_of_eq rfl) at_234 ?_
      intro v T h S hQ
      obtain ⟨rfl, hh⟩ := hQ
      replace hh := hh.symm
      subst hh
      show Goes _ _ _ _ T (mkF me_ 237 #[.val (.int p0), .val (.int p1), .val (.int p2), .val (.int p3), .val (.int p4), .val (.int p5), .val (.int v1), .val (.int (3 : Int32)), .val (.int r3), .val (.int v4), .val (.int v5), .val (.int v6), .val (.int v7), .val (.ref b17), .val (.ref b18)] [(.int (bi ((1 : Int32) < (v1 + (1 : Int32)).toNatClampNeg.toInt32 → u19 (1 : Int32).toNatClampNeg = own_below (1 : Int32) (3 : Int32) v4 v5 v6 v7)))])
      refine Goes.go (fun _ => XS.ifNo S.here B.x rfl (B.d at_237) rfl ((if0 _ _).trans (feq (bi_ne (show (1 : Int32) < (v1 + (1 : Int32)).toNatClampNeg.toInt32 → u19 (1 : Int32).toNatClampNeg = own_below (1 : Int32) (3 : Int32) v4 v5 v6 v7 from fun q => (own_fin hrg hkk hf3_185 1 (by decide) q).trans (own_bel3 _ v4 v5 v6 v7)))).1)) ?_
      show Goes _ _ _ _ T (mkF me_ 240 #[.val (.int p0), .val (.int p1), .val (.int p2), .val (.int p3), .val (.int p4), .val (.int p5), .val (.int v1), .val (.int (3 : Int32)), .val (.int r3), .val (.int v4), .val (.int v5), .val (.int v6), .val (.int v7), .val (.ref b17), .val (.ref b18)] [])
      refine Goes.go (fun _ => XS.aload S.here B.x rfl (B.d at_240) rfl rfl) ?_
      show Goes _ _ _ _ T (mkF me_ 242 #[.val (.int p0), .val (.int p1), .val (.int p2), .val (.int p3), .val (.int p4), .val (.int p5), .val (.int v1), .val (.int (3 : Int32)), .val (.int r3), .val (.int v4), .val (.int v5), .val (.int v6), .val (.int v7), .val (.ref b17), .val (.ref b18)] [(.ref b18)])
      refine Goes.go (fun _ => XS.iconst S.here B.x rfl (B.d at_242)) ?_
      show Goes _ _ _ _ T (mkF me_ 243 #[.val (.int p0), .val (.int p1), .val (.int p2), .val (.int p3), .val (.int p4), .val (.int p5), .val (.int v1), .val (.int (3 : Int32)), .val (.int r3), .val (.int v4), .val (.int v5), .val (.int v6), .val (.int v7), .val (.ref b17), .val (.ref b18)] [(.int (2 : Int32)), (.ref b18)])
      refine Goes.go (fun _ => XS.iload S.here B.x rfl (B.d at_243) rfl) ?_
      show Goes _ _ _ _ T (mkF me_ 245 #[.val (.int p0), .val (.int p1), .val (.int p2), .val (.int p3), .val (.int p4), .val (.int p5), .val (.int v1), .val (.int (3 : Int32)), .val (.int r3), .val (.int v4), .val (.int v5), .val (.int v6), .val (.int v7), .val (.ref b17), .val (.ref b18)] [(.int (3 : Int32)), (.int (2 : Int32)), (.ref b18)])
      refine Goes.go (fun _ => XS.iload S.here B.x rfl (B.d at_245) rfl) ?_
      show Goes _ _ _ _ T (mkF me_ 247 #[.val (.int p0), .val (.int p1), .val (.int p2), .val (.int p3), .val (.int p4), .val (.int p5), .val (.int v1), .val (.int (3 : Int32)), .val (.int r3), .val (.int v4), .val (.int v5), .val (.int v6), .val (.int v7), .val (.ref b17), .val (.ref b18)] [(.int v4), (.int (3 : Int32)), (.int (2 : Int32)), (.ref b18)])
      refine Goes.go (fun _ => XS.iload S.here B.x rfl (B.d at_247) rfl) ?_
      show Goes _ _ _ _ T (mkF me_ 249 #[.val (.int p0), .val (.int p1), .val (.int p2), .val (.int p3), .val (.int p4), .val (.int p5), .val (.int v1), .val (.int (3 : Int32)), .val (.int r3), .val (.int v4), .val (.int v5), .val (.int v6), .val (.int v7), .val (.ref b17), .val (.ref b18)] [(.int v5), (.int v4), (.int (3 : Int32)), (.int (2 : Int32)), (.ref b18)])
      refine Goes.go (fun _ => XS.iload S.here B.x rfl (B.d at_249) rfl) ?_
      show Goes _ _ _ _ T (mkF me_ 251 #[.val (.int p0), .val (.int p1), .val (.int p2), .val (.int p3), .val (.int p4), .val (.int p5), .val (.int v1), .val (.int (3 : Int32)), .val (.int r3), .val (.int v4), .val (.int v5), .val (.int v6), .val (.int v7), .val (.ref b17), .val (.ref b18)] [(.int v6), (.int v5), (.int v4), (.int (3 : Int32)), (.int (2 : Int32)), (.ref b18)])
      refine Goes.go (fun _ => XS.iload S.here B.x rfl (B.d at_251) rfl) ?_
      show Goes _ _ _ _ T (mkF me_ 253 #[.val (.int p0), .val (.int p1), .val (.int p2), .val (.int p3), .val (.int p4), .val (.int p5), .val (.int v1), .val (.int (3 : Int32)), .val (.int r3), .val (.int v4), .val (.int v5), .val (.int v6), .val (.int v7), .val (.ref b17), .val (.ref b18)] [(.int v7), (.int v6), (.int v5), (.int v4), (.int (3 : Int32)), (.int (2 : Int32)), (.ref b18)])
      refine Goes.callS (argsL := [(.ref b18), (.int (2 : Int32)), (.int (3 : Int32)), (.int v4), (.int v5), (.int v6), (.int v7)]) (rest := []) (W := 0) S B (rm_ok l Z aw hw b18 (2 : Int32) (3 : Int32) v4 v5 v6 v7 (v1 + (1 : Int32)).toNatClampNeg u19 _ n0 A_b18 (by decide) (own_hN hrg 2)) (w10 hw) (w11 hw) (w12 hw) (w13 hw) (by decide) (by decide) (by decide) (by decide) (by decide) rfl (lenOf pd_3 rfl) rfl (Nat.le_of_eq rfl) at_253 ?_
      intro v T h S hQ
      obtain ⟨rfl, hh⟩ := hQ
      replace hh := hh.symm
      subst hh
      show Goes _ _ _ _ T (mkF me_ 256 #[.val (.int p0), .val (.int p1), .val (.int p2), .val (.int p3), .val (.int p4), .val (.int p5), .val (.int v1), .val (.int (3 : Int32)), .val (.int r3), .val (.int v4), .val (.int v5), .val (.int v6), .val (.int v7), .val (.ref b17), .val (.ref b18)] [(.int (bi ((2 : Int32) < (v1 + (1 : Int32)).toNatClampNeg.toInt32 → u19 (2 : Int32).toNatClampNeg = own_below (2 : Int32) (3 : Int32) v4 v5 v6 v7)))])
      refine Goes.go (fun _ => XS.ifNo S.here B.x rfl (B.d at_256) rfl ((if0 _ _).trans (feq (bi_ne (show (2 : Int32) < (v1 + (1 : Int32)).toNatClampNeg.toInt32 → u19 (2 : Int32).toNatClampNeg = own_below (2 : Int32) (3 : Int32) v4 v5 v6 v7 from fun q => (own_fin hrg hkk hf3_185 2 (by decide) q).trans (own_bel3 _ v4 v5 v6 v7)))).1)) ?_
      show Goes _ _ _ _ T (mkF me_ 259 #[.val (.int p0), .val (.int p1), .val (.int p2), .val (.int p3), .val (.int p4), .val (.int p5), .val (.int v1), .val (.int (3 : Int32)), .val (.int r3), .val (.int v4), .val (.int v5), .val (.int v6), .val (.int v7), .val (.ref b17), .val (.ref b18)] [])
      refine Goes.go (fun _ => XS.aload S.here B.x rfl (B.d at_259) rfl rfl) ?_
      show Goes _ _ _ _ T (mkF me_ 261 #[.val (.int p0), .val (.int p1), .val (.int p2), .val (.int p3), .val (.int p4), .val (.int p5), .val (.int v1), .val (.int (3 : Int32)), .val (.int r3), .val (.int v4), .val (.int v5), .val (.int v6), .val (.int v7), .val (.ref b17), .val (.ref b18)] [(.ref b18)])
      refine Goes.go (fun _ => XS.iconst S.here B.x rfl (B.d at_261)) ?_
      show Goes _ _ _ _ T (mkF me_ 262 #[.val (.int p0), .val (.int p1), .val (.int p2), .val (.int p3), .val (.int p4), .val (.int p5), .val (.int v1), .val (.int (3 : Int32)), .val (.int r3), .val (.int v4), .val (.int v5), .val (.int v6), .val (.int v7), .val (.ref b17), .val (.ref b18)] [(.int (3 : Int32)), (.ref b18)])
      refine Goes.go (fun _ => XS.iload S.here B.x rfl (B.d at_262) rfl) ?_
      show Goes _ _ _ _ T (mkF me_ 264 #[.val (.int p0), .val (.int p1), .val (.int p2), .val (.int p3), .val (.int p4), .val (.int p5), .val (.int v1), .val (.int (3 : Int32)), .val (.int r3), .val (.int v4), .val (.int v5), .val (.int v6), .val (.int v7), .val (.ref b17), .val (.ref b18)] [(.int (3 : Int32)), (.int (3 : Int32)), (.ref b18)])
      refine Goes.go (fun _ => XS.iload S.here B.x rfl (B.d at_264) rfl) ?_
      show Goes _ _ _ _ T (mkF me_ 266 #[.val (.int p0), .val (.int p1), .val (.int p2), .val (.int p3), .val (.int p4), .val (.int p5), .val (.int v1), .val (.int (3 : Int32)), .val (.int r3), .val (.int v4), .val (.int v5), .val (.int v6), .val (.int v7), .val (.ref b17), .val (.ref b18)] [(.int v4), (.int (3 : Int32)), (.int (3 : Int32)), (.ref b18)])
      refine Goes.go (fun _ => XS.iload S.here B.x rfl (B.d at_266) rfl) ?_
      show Goes _ _ _ _ T (mkF me_ 268 #[.val (.int p0), .val (.int p1), .val (.int p2), .val (.int p3), .val (.int p4), .val (.int p5), .val (.int v1), .val (.int (3 : Int32)), .val (.int r3), .val (.int v4), .val (.int v5), .val (.int v6), .val (.int v7), .val (.ref b17), .val (.ref b18)] [(.int v5), (.int v4), (.int (3 : Int32)), (.int (3 : Int32)), (.ref b18)])
      refine Goes.go (fun _ => XS.iload S.here B.x rfl (B.d at_268) rfl) ?_
      show Goes _ _ _ _ T (mkF me_ 270 #[.val (.int p0), .val (.int p1), .val (.int p2), .val (.int p3), .val (.int p4), .val (.int p5), .val (.int v1), .val (.int (3 : Int32)), .val (.int r3), .val (.int v4), .val (.int v5), .val (.int v6), .val (.int v7), .val (.ref b17), .val (.ref b18)] [(.int v6), (.int v5), (.int v4), (.int (3 : Int32)), (.int (3 : Int32)), (.ref b18)])
      refine Goes.go (fun _ => XS.iload S.here B.x rfl (B.d at_270) rfl) ?_
      show Goes _ _ _ _ T (mkF me_ 272 #[.val (.int p0), .val (.int p1), .val (.int p2), .val (.int p3), .val (.int p4), .val (.int p5), .val (.int v1), .val (.int (3 : Int32)), .val (.int r3), .val (.int v4), .val (.int v5), .val (.int v6), .val (.int v7), .val (.ref b17), .val (.ref b18)] [(.int v7), (.int v6), (.int v5), (.int v4), (.int (3 : Int32)), (.int (3 : Int32)), (.ref b18)])
      refine Goes.callS (argsL := [(.ref b18), (.int (3 : Int32)), (.int (3 : Int32)), (.int v4), (.int v5), (.int v6), (.int v7)]) (rest := []) (W := 0) S B (rm_ok l Z aw hw b18 (3 : Int32) (3 : Int32) v4 v5 v6 v7 (v1 + (1 : Int32)).toNatClampNeg u19 _ n0 A_b18 (by decide) (own_hN hrg 3)) (w10 hw) (w11 hw) (w12 hw) (w13 hw) (by decide) (by decide) (by decide) (by decide) (by decide) rfl (lenOf pd_3 rfl) rfl (Nat.le_of_eq rfl) at_272 ?_
      intro v T h S hQ
      obtain ⟨rfl, hh⟩ := hQ
      replace hh := hh.symm
      subst hh
      show Goes _ _ _ _ T (mkF me_ 275 #[.val (.int p0), .val (.int p1), .val (.int p2), .val (.int p3), .val (.int p4), .val (.int p5), .val (.int v1), .val (.int (3 : Int32)), .val (.int r3), .val (.int v4), .val (.int v5), .val (.int v6), .val (.int v7), .val (.ref b17), .val (.ref b18)] [(.int (bi ((3 : Int32) < (v1 + (1 : Int32)).toNatClampNeg.toInt32 → u19 (3 : Int32).toNatClampNeg = own_below (3 : Int32) (3 : Int32) v4 v5 v6 v7)))])
      refine Goes.go (fun _ => XS.ifNo S.here B.x rfl (B.d at_275) rfl ((if0 _ _).trans (feq (bi_ne (show (3 : Int32) < (v1 + (1 : Int32)).toNatClampNeg.toInt32 → u19 (3 : Int32).toNatClampNeg = own_below (3 : Int32) (3 : Int32) v4 v5 v6 v7 from fun q => (own_fin hrg hkk hf3_185 3 (by decide) q).trans (own_bel3 _ v4 v5 v6 v7)))).1)) ?_
      show Goes _ _ _ _ T (mkF me_ 278 #[.val (.int p0), .val (.int p1), .val (.int p2), .val (.int p3), .val (.int p4), .val (.int p5), .val (.int v1), .val (.int (3 : Int32)), .val (.int r3), .val (.int v4), .val (.int v5), .val (.int v6), .val (.int v7), .val (.ref b17), .val (.ref b18)] [])
      refine Goes.go (fun _ => XS.aload S.here B.x rfl (B.d at_278) rfl rfl) ?_
      show Goes _ _ _ _ T (mkF me_ 280 #[.val (.int p0), .val (.int p1), .val (.int p2), .val (.int p3), .val (.int p4), .val (.int p5), .val (.int v1), .val (.int (3 : Int32)), .val (.int r3), .val (.int v4), .val (.int v5), .val (.int v6), .val (.int v7), .val (.ref b17), .val (.ref b18)] [(.ref b18)])
      refine Goes.go (fun _ => XS.iconst S.here B.x rfl (B.d at_280)) ?_
      show Goes _ _ _ _ T (mkF me_ 281 #[.val (.int p0), .val (.int p1), .val (.int p2), .val (.int p3), .val (.int p4), .val (.int p5), .val (.int v1), .val (.int (3 : Int32)), .val (.int r3), .val (.int v4), .val (.int v5), .val (.int v6), .val (.int v7), .val (.ref b17), .val (.ref b18)] [(.int (4 : Int32)), (.ref b18)])
      refine Goes.go (fun _ => XS.iload S.here B.x rfl (B.d at_281) rfl) ?_
      show Goes _ _ _ _ T (mkF me_ 283 #[.val (.int p0), .val (.int p1), .val (.int p2), .val (.int p3), .val (.int p4), .val (.int p5), .val (.int v1), .val (.int (3 : Int32)), .val (.int r3), .val (.int v4), .val (.int v5), .val (.int v6), .val (.int v7), .val (.ref b17), .val (.ref b18)] [(.int (3 : Int32)), (.int (4 : Int32)), (.ref b18)])
      refine Goes.go (fun _ => XS.iload S.here B.x rfl (B.d at_283) rfl) ?_
      show Goes _ _ _ _ T (mkF me_ 285 #[.val (.int p0), .val (.int p1), .val (.int p2), .val (.int p3), .val (.int p4), .val (.int p5), .val (.int v1), .val (.int (3 : Int32)), .val (.int r3), .val (.int v4), .val (.int v5), .val (.int v6), .val (.int v7), .val (.ref b17), .val (.ref b18)] [(.int v4), (.int (3 : Int32)), (.int (4 : Int32)), (.ref b18)])
      refine Goes.go (fun _ => XS.iload S.here B.x rfl (B.d at_285) rfl) ?_
      show Goes _ _ _ _ T (mkF me_ 287 #[.val (.int p0), .val (.int p1), .val (.int p2), .val (.int p3), .val (.int p4), .val (.int p5), .val (.int v1), .val (.int (3 : Int32)), .val (.int r3), .val (.int v4), .val (.int v5), .val (.int v6), .val (.int v7), .val (.ref b17), .val (.ref b18)] [(.int v5), (.int v4), (.int (3 : Int32)), (.int (4 : Int32)), (.ref b18)])
      refine Goes.go (fun _ => XS.iload S.here B.x rfl (B.d at_287) rfl) ?_
      show Goes _ _ _ _ T (mkF me_ 289 #[.val (.int p0), .val (.int p1), .val (.int p2), .val (.int p3), .val (.int p4), .val (.int p5), .val (.int v1), .val (.int (3 : Int32)), .val (.int r3), .val (.int v4), .val (.int v5), .val (.int v6), .val (.int v7), .val (.ref b17), .val (.ref b18)] [(.int v6), (.int v5), (.int v4), (.int (3 : Int32)), (.int (4 : Int32)), (.ref b18)])
      refine Goes.go (fun _ => XS.iload S.here B.x rfl (B.d at_289) rfl) ?_
      show Goes _ _ _ _ T (mkF me_ 291 #[.val (.int p0), .val (.int p1), .val (.int p2), .val (.int p3), .val (.int p4), .val (.int p5), .val (.int v1), .val (.int (3 : Int32)), .val (.int r3), .val (.int v4), .val (.int v5), .val (.int v6), .val (.int v7), .val (.ref b17), .val (.ref b18)] [(.int v7), (.int v6), (.int v5), (.int v4), (.int (3 : Int32)), (.int (4 : Int32)), (.ref b18)])
      refine Goes.callS (argsL := [(.ref b18), (.int (4 : Int32)), (.int (3 : Int32)), (.int v4), (.int v5), (.int v6), (.int v7)]) (rest := []) (W := 0) S B (rm_ok l Z aw hw b18 (4 : Int32) (3 : Int32) v4 v5 v6 v7 (v1 + (1 : Int32)).toNatClampNeg u19 _ n0 A_b18 (by decide) (own_hN hrg 4)) (w10 hw) (w11 hw) (w12 hw) (w13 hw) (by decide) (by decide) (by decide) (by decide) (by decide) rfl (lenOf pd_3 rfl) rfl (Nat.le_of_eq rfl) at_291 ?_
      intro v T h S hQ
      obtain ⟨rfl, hh⟩ := hQ
      replace hh := hh.symm
      subst hh
      show Goes _ _ _ _ T (mkF me_ 294 #[.val (.int p0), .val (.int p1), .val (.int p2), .val (.int p3), .val (.int p4), .val (.int p5), .val (.int v1), .val (.int (3 : Int32)), .val (.int r3), .val (.int v4), .val (.int v5), .val (.int v6), .val (.int v7), .val (.ref b17), .val (.ref b18)] [(.int (bi ((4 : Int32) < (v1 + (1 : Int32)).toNatClampNeg.toInt32 → u19 (4 : Int32).toNatClampNeg = own_below (4 : Int32) (3 : Int32) v4 v5 v6 v7)))])
      refine Goes.go (fun _ => XS.ifNo S.here B.x rfl (B.d at_294) rfl ((if0 _ _).trans (feq (bi_ne (show (4 : Int32) < (v1 + (1 : Int32)).toNatClampNeg.toInt32 → u19 (4 : Int32).toNatClampNeg = own_below (4 : Int32) (3 : Int32) v4 v5 v6 v7 from fun q => (own_fin hrg hkk hf3_185 4 (by decide) q).trans (own_bel3 _ v4 v5 v6 v7)))).1)) ?_
      show Goes _ _ _ _ T (mkF me_ 297 #[.val (.int p0), .val (.int p1), .val (.int p2), .val (.int p3), .val (.int p4), .val (.int p5), .val (.int v1), .val (.int (3 : Int32)), .val (.int r3), .val (.int v4), .val (.int v5), .val (.int v6), .val (.int v7), .val (.ref b17), .val (.ref b18)] [])
      refine Goes.go (fun _ => XS.iconst S.here B.x rfl (B.d at_297)) ?_
      show Goes _ _ _ _ T (mkF me_ 298 #[.val (.int p0), .val (.int p1), .val (.int p2), .val (.int p3), .val (.int p4), .val (.int p5), .val (.int v1), .val (.int (3 : Int32)), .val (.int r3), .val (.int v4), .val (.int v5), .val (.int v6), .val (.int v7), .val (.ref b17), .val (.ref b18)] [(.int (1 : Int32))])
      refine Goes.go (fun _ => XS.goto S.here B.x rfl (pc0 := 298) (pc' := 302) rfl (B.d at_298) (by decide) (by decide)) ?_
      show Goes _ _ _ _ T (mkF me_ 302 #[.val (.int p0), .val (.int p1), .val (.int p2), .val (.int p3), .val (.int p4), .val (.int p5), .val (.int v1), .val (.int (3 : Int32)), .val (.int r3), .val (.int v4), .val (.int v5), .val (.int v6), .val (.int v7), .val (.ref b17), .val (.ref b18)] [(.int (1 : Int32))])
      refine Goes.retN S B (by simp) at_302 (by decide) (by decide) ?_
      exact rfl
    · skip
      show Goes _ _ _ _ T (mkF me_ 71 #[.val (.int p0), .val (.int p1), .val (.int p2), .val (.int p3), .val (.int p4), .val (.int p5), .val (.int v1), .val (.int (4 : Int32)), .val (.int r3), .val (.int v4), .val (.int v5), .val (.int v6), .val (.int v7), .unset, .unset] [])
      refine Goes.go (fun _ => XS.iload S.here B.x rfl (B.d at_71) rfl) ?_
      show Goes _ _ _ _ T (mkF me_ 73 #[.val (.int p0), .val (.int p1), .val (.int p2), .val (.int p3), .val (.int p4), .val (.int p5), .val (.int v1), .val (.int (4 : Int32)), .val (.int r3), .val (.int v4), .val (.int v5), .val (.int v6), .val (.int v7), .unset, .unset] [(.int (4 : Int32))])
      refine Goes.go (fun _ => XS.ifYes S.here B.x rfl (pc0 := 73) (pc' := 84) rfl (B.d at_73) rfl (by decide) (by decide) (by decide)) ?_
      show Goes _ _ _ _ T (mkF me_ 84 #[.val (.int p0), .val (.int p1), .val (.int p2), .val (.int p3), .val (.int p4), .val (.int p5), .val (.int v1), .val (.int (4 : Int32)), .val (.int r3), .val (.int v4), .val (.int v5), .val (.int v6), .val (.int v7), .unset, .unset] [])
      refine Goes.go (fun _ => XS.iload S.here B.x rfl (B.d at_84) rfl) ?_
      show Goes _ _ _ _ T (mkF me_ 86 #[.val (.int p0), .val (.int p1), .val (.int p2), .val (.int p3), .val (.int p4), .val (.int p5), .val (.int v1), .val (.int (4 : Int32)), .val (.int r3), .val (.int v4), .val (.int v5), .val (.int v6), .val (.int v7), .unset, .unset] [(.int (4 : Int32))])
      refine Goes.go (fun _ => XS.iconst S.here B.x rfl (B.d at_86)) ?_
      show Goes _ _ _ _ T (mkF me_ 87 #[.val (.int p0), .val (.int p1), .val (.int p2), .val (.int p3), .val (.int p4), .val (.int p5), .val (.int v1), .val (.int (4 : Int32)), .val (.int r3), .val (.int v4), .val (.int v5), .val (.int v6), .val (.int v7), .unset, .unset] [(.int (1 : Int32)), (.int (4 : Int32))])
      refine Goes.go (fun _ => XS.icmpYes S.here B.x rfl (pc0 := 87) (pc' := 103) rfl (B.d at_87) rfl (by decide) (by decide) (by decide)) ?_
      show Goes _ _ _ _ T (mkF me_ 103 #[.val (.int p0), .val (.int p1), .val (.int p2), .val (.int p3), .val (.int p4), .val (.int p5), .val (.int v1), .val (.int (4 : Int32)), .val (.int r3), .val (.int v4), .val (.int v5), .val (.int v6), .val (.int v7), .unset, .unset] [])
      refine Goes.go (fun _ => XS.iload S.here B.x rfl (B.d at_103) rfl) ?_
      show Goes _ _ _ _ T (mkF me_ 105 #[.val (.int p0), .val (.int p1), .val (.int p2), .val (.int p3), .val (.int p4), .val (.int p5), .val (.int v1), .val (.int (4 : Int32)), .val (.int r3), .val (.int v4), .val (.int v5), .val (.int v6), .val (.int v7), .unset, .unset] [(.int (4 : Int32))])
      refine Goes.go (fun _ => XS.iconst S.here B.x rfl (B.d at_105)) ?_
      show Goes _ _ _ _ T (mkF me_ 106 #[.val (.int p0), .val (.int p1), .val (.int p2), .val (.int p3), .val (.int p4), .val (.int p5), .val (.int v1), .val (.int (4 : Int32)), .val (.int r3), .val (.int v4), .val (.int v5), .val (.int v6), .val (.int v7), .unset, .unset] [(.int (2 : Int32)), (.int (4 : Int32))])
      refine Goes.go (fun _ => XS.icmpYes S.here B.x rfl (pc0 := 106) (pc' := 127) rfl (B.d at_106) rfl (by decide) (by decide) (by decide)) ?_
      show Goes _ _ _ _ T (mkF me_ 127 #[.val (.int p0), .val (.int p1), .val (.int p2), .val (.int p3), .val (.int p4), .val (.int p5), .val (.int v1), .val (.int (4 : Int32)), .val (.int r3), .val (.int v4), .val (.int v5), .val (.int v6), .val (.int v7), .unset, .unset] [])
      refine Goes.go (fun _ => XS.iload S.here B.x rfl (B.d at_127) rfl) ?_
      show Goes _ _ _ _ T (mkF me_ 129 #[.val (.int p0), .val (.int p1), .val (.int p2), .val (.int p3), .val (.int p4), .val (.int p5), .val (.int v1), .val (.int (4 : Int32)), .val (.int r3), .val (.int v4), .val (.int v5), .val (.int v6), .val (.int v7), .unset, .unset] [(.int (4 : Int32))])
      refine Goes.go (fun _ => XS.iconst S.here B.x rfl (B.d at_129)) ?_
      show Goes _ _ _ _ T (mkF me_ 130 #[.val (.int p0), .val (.int p1), .val (.int p2), .val (.int p3), .val (.int p4), .val (.int p5), .val (.int v1), .val (.int (4 : Int32)), .val (.int r3), .val (.int v4), .val (.int v5), .val (.int v6), .val (.int v7), .unset, .unset] [(.int (3 : Int32)), (.int (4 : Int32))])
      refine Goes.go (fun _ => XS.icmpYes S.here B.x rfl (pc0 := 130) (pc' := 156) rfl (B.d at_130) rfl (by decide) (by decide) (by decide)) ?_
      show Goes _ _ _ _ T (mkF me_ 156 #[.val (.int p0), .val (.int p1), .val (.int p2), .val (.int p3), .val (.int p4), .val (.int p5), .val (.int v1), .val (.int (4 : Int32)), .val (.int r3), .val (.int v4), .val (.int v5), .val (.int v6), .val (.int v7), .unset, .unset] [])
      refine Goes.go (fun _ => XS.iconst S.here B.x rfl (B.d at_156)) ?_
      show Goes _ _ _ _ T (mkF me_ 157 #[.val (.int p0), .val (.int p1), .val (.int p2), .val (.int p3), .val (.int p4), .val (.int p5), .val (.int v1), .val (.int (4 : Int32)), .val (.int r3), .val (.int v4), .val (.int v5), .val (.int v6), .val (.int v7), .unset, .unset] [(.int (4 : Int32))])
      refine Goes.newP (aty := .int) (cap := 4) S B (w5 hw) at_157 (by decide) (by decide) (by decide) (by decide) (by decide) ?_
      intro T h b20 S X zb g_b20 A_b20
      replace A_b20 : Ary Z h b20 .int 4 (fun i => (.int ((fun _ => 0) i))) := A_b20
      show Goes _ _ _ _ T (mkF me_ 159 #[.val (.int p0), .val (.int p1), .val (.int p2), .val (.int p3), .val (.int p4), .val (.int p5), .val (.int v1), .val (.int (4 : Int32)), .val (.int r3), .val (.int v4), .val (.int v5), .val (.int v6), .val (.int v7), .unset, .unset] [(.ref b20)])
      refine Goes.go (fun _ => XS.dup S.here B.x rfl (B.d at_159) rfl rfl) ?_
      show Goes _ _ _ _ T (mkF me_ 160 #[.val (.int p0), .val (.int p1), .val (.int p2), .val (.int p3), .val (.int p4), .val (.int p5), .val (.int v1), .val (.int (4 : Int32)), .val (.int r3), .val (.int v4), .val (.int v5), .val (.int v6), .val (.int v7), .unset, .unset] [(.ref b20), (.ref b20)])
      refine Goes.go (fun _ => XS.iconst S.here B.x rfl (B.d at_160)) ?_
      show Goes _ _ _ _ T (mkF me_ 161 #[.val (.int p0), .val (.int p1), .val (.int p2), .val (.int p3), .val (.int p4), .val (.int p5), .val (.int v1), .val (.int (4 : Int32)), .val (.int r3), .val (.int v4), .val (.int v5), .val (.int v6), .val (.int v7), .unset, .unset] [(.int (0 : Int32)), (.ref b20), (.ref b20)])
      refine Goes.go (fun _ => XS.iload S.here B.x rfl (B.d at_161) rfl) ?_
      show Goes _ _ _ _ T (mkF me_ 163 #[.val (.int p0), .val (.int p1), .val (.int p2), .val (.int p3), .val (.int p4), .val (.int p5), .val (.int v1), .val (.int (4 : Int32)), .val (.int r3), .val (.int v4), .val (.int v5), .val (.int v6), .val (.int v7), .unset, .unset] [(.int v4), (.int (0 : Int32)), (.ref b20), (.ref b20)])
      refine Goes.iastore S B A_b20 (by decide) (by decide) g_b20 at_163 ?_
      intro T h S W A_b20
      replace A_b20 : Ary Z h b20 .int 4 (aup (fun i => (.int ((fun _ => 0) i))) 0 (.int v4)) := A_b20
      rw [aup_int] at A_b20
      show Goes _ _ _ _ T (mkF me_ 164 #[.val (.int p0), .val (.int p1), .val (.int p2), .val (.int p3), .val (.int p4), .val (.int p5), .val (.int v1), .val (.int (4 : Int32)), .val (.int r3), .val (.int v4), .val (.int v5), .val (.int v6), .val (.int v7), .unset, .unset] [(.ref b20)])
      refine Goes.go (fun _ => XS.dup S.here B.x rfl (B.d at_164) rfl rfl) ?_
      show Goes _ _ _ _ T (mkF me_ 165 #[.val (.int p0), .val (.int p1), .val (.int p2), .val (.int p3), .val (.int p4), .val (.int p5), .val (.int v1), .val (.int (4 : Int32)), .val (.int r3), .val (.int v4), .val (.int v5), .val (.int v6), .val (.int v7), .unset, .unset] [(.ref b20), (.ref b20)])
      refine Goes.go (fun _ => XS.iconst S.here B.x rfl (B.d at_165)) ?_
      show Goes _ _ _ _ T (mkF me_ 166 #[.val (.int p0), .val (.int p1), .val (.int p2), .val (.int p3), .val (.int p4), .val (.int p5), .val (.int v1), .val (.int (4 : Int32)), .val (.int r3), .val (.int v4), .val (.int v5), .val (.int v6), .val (.int v7), .unset, .unset] [(.int (1 : Int32)), (.ref b20), (.ref b20)])
      refine Goes.go (fun _ => XS.iload S.here B.x rfl (B.d at_166) rfl) ?_
      show Goes _ _ _ _ T (mkF me_ 168 #[.val (.int p0), .val (.int p1), .val (.int p2), .val (.int p3), .val (.int p4), .val (.int p5), .val (.int v1), .val (.int (4 : Int32)), .val (.int r3), .val (.int v4), .val (.int v5), .val (.int v6), .val (.int v7), .unset, .unset] [(.int v5), (.int (1 : Int32)), (.ref b20), (.ref b20)])
      refine Goes.iastore S B A_b20 (by decide) (by decide) g_b20 at_168 ?_
      intro T h S W A_b20
      replace A_b20 : Ary Z h b20 .int 4 (aup (fun i => (.int ((aup (fun _ => 0) 0 v4) i))) 1 (.int v5)) := A_b20
      rw [aup_int] at A_b20
      show Goes _ _ _ _ T (mkF me_ 169 #[.val (.int p0), .val (.int p1), .val (.int p2), .val (.int p3), .val (.int p4), .val (.int p5), .val (.int v1), .val (.int (4 : Int32)), .val (.int r3), .val (.int v4), .val (.int v5), .val (.int v6), .val (.int v7), .unset, .unset] [(.ref b20)])
      refine Goes.go (fun _ => XS.dup S.here B.x rfl (B.d at_169) rfl rfl) ?_
      show Goes _ _ _ _ T (mkF me_ 170 #[.val (.int p0), .val (.int p1), .val (.int p2), .val (.int p3), .val (.int p4), .val (.int p5), .val (.int v1), .val (.int (4 : Int32)), .val (.int r3), .val (.int v4), .val (.int v5), .val (.int v6), .val (.int v7), .unset, .unset] [(.ref b20), (.ref b20)])
      refine Goes.go (fun _ => XS.iconst S.here B.x rfl (B.d at_170)) ?_
      show Goes _ _ _ _ T (mkF me_ 171 #[.val (.int p0), .val (.int p1), .val (.int p2), .val (.int p3), .val (.int p4), .val (.int p5), .val (.int v1), .val (.int (4 : Int32)), .val (.int r3), .val (.int v4), .val (.int v5), .val (.int v6), .val (.int v7), .unset, .unset] [(.int (2 : Int32)), (.ref b20), (.ref b20)])
      refine Goes.go (fun _ => XS.iload S.here B.x rfl (B.d at_171) rfl) ?_
      show Goes _ _ _ _ T (mkF me_ 173 #[.val (.int p0), .val (.int p1), .val (.int p2), .val (.int p3), .val (.int p4), .val (.int p5), .val (.int v1), .val (.int (4 : Int32)), .val (.int r3), .val (.int v4), .val (.int v5), .val (.int v6), .val (.int v7), .unset, .unset] [(.int v6), (.int (2 : Int32)), (.ref b20), (.ref b20)])
      refine Goes.iastore S B A_b20 (by decide) (by decide) g_b20 at_173 ?_
      intro T h S W A_b20
      replace A_b20 : Ary Z h b20 .int 4 (aup (fun i => (.int ((aup (aup (fun _ => 0) 0 v4) 1 v5) i))) 2 (.int v6)) := A_b20
      rw [aup_int] at A_b20
      show Goes _ _ _ _ T (mkF me_ 174 #[.val (.int p0), .val (.int p1), .val (.int p2), .val (.int p3), .val (.int p4), .val (.int p5), .val (.int v1), .val (.int (4 : Int32)), .val (.int r3), .val (.int v4), .val (.int v5), .val (.int v6), .val (.int v7), .unset, .unset] [(.ref b20)])
      refine Goes.go (fun _ => XS.dup S.here B.x rfl (B.d at_174) rfl rfl) ?_
      show Goes _ _ _ _ T (mkF me_ 175 #[.val (.int p0), .val (.int p1), .val (.int p2), .val (.int p3), .val (.int p4), .val (.int p5), .val (.int v1), .val (.int (4 : Int32)), .val (.int r3), .val (.int v4), .val (.int v5), .val (.int v6), .val (.int v7), .unset, .unset] [(.ref b20), (.ref b20)])
      refine Goes.go (fun _ => XS.iconst S.here B.x rfl (B.d at_175)) ?_
      show Goes _ _ _ _ T (mkF me_ 176 #[.val (.int p0), .val (.int p1), .val (.int p2), .val (.int p3), .val (.int p4), .val (.int p5), .val (.int v1), .val (.int (4 : Int32)), .val (.int r3), .val (.int v4), .val (.int v5), .val (.int v6), .val (.int v7), .unset, .unset] [(.int (3 : Int32)), (.ref b20), (.ref b20)])
      refine Goes.go (fun _ => XS.iload S.here B.x rfl (B.d at_176) rfl) ?_
      show Goes _ _ _ _ T (mkF me_ 178 #[.val (.int p0), .val (.int p1), .val (.int p2), .val (.int p3), .val (.int p4), .val (.int p5), .val (.int v1), .val (.int (4 : Int32)), .val (.int r3), .val (.int v4), .val (.int v5), .val (.int v6), .val (.int v7), .unset, .unset] [(.int v7), (.int (3 : Int32)), (.ref b20), (.ref b20)])
      refine Goes.iastore S B A_b20 (by decide) (by decide) g_b20 at_178 ?_
      intro T h S W A_b20
      replace A_b20 : Ary Z h b20 .int 4 (aup (fun i => (.int ((aup (aup (aup (fun _ => 0) 0 v4) 1 v5) 2 v6) i))) 3 (.int v7)) := A_b20
      rw [aup_int] at A_b20
      show Goes _ _ _ _ T (mkF me_ 179 #[.val (.int p0), .val (.int p1), .val (.int p2), .val (.int p3), .val (.int p4), .val (.int p5), .val (.int v1), .val (.int (4 : Int32)), .val (.int r3), .val (.int v4), .val (.int v5), .val (.int v6), .val (.int v7), .unset, .unset] [(.ref b20)])
      refine Goes.go (fun _ => XS.astore S.here B.x rfl (B.d at_179) rfl rfl (l' := #[.val (.int p0), .val (.int p1), .val (.int p2), .val (.int p3), .val (.int p4), .val (.int p5), .val (.int v1), .val (.int (4 : Int32)), .val (.int r3), .val (.int v4), .val (.int v5), .val (.int v6), .val (.int v7), .val (.ref b20), .unset]) rfl) ?_
      show Goes _ _ _ _ T (mkF me_ 181 #[.val (.int p0), .val (.int p1), .val (.int p2), .val (.int p3), .val (.int p4), .val (.int p5), .val (.int v1), .val (.int (4 : Int32)), .val (.int r3), .val (.int v4), .val (.int v5), .val (.int v6), .val (.int v7), .val (.ref b20), .unset] [])
      refine Goes.go (fun _ => XS.aload S.here B.x rfl (B.d at_181) rfl rfl) ?_
      show Goes _ _ _ _ T (mkF me_ 183 #[.val (.int p0), .val (.int p1), .val (.int p2), .val (.int p3), .val (.int p4), .val (.int p5), .val (.int v1), .val (.int (4 : Int32)), .val (.int r3), .val (.int v4), .val (.int v5), .val (.int v6), .val (.int v7), .val (.ref b20), .unset] [(.ref b20)])
      refine Goes.go (fun _ => XS.iload S.here B.x rfl (B.d at_183) rfl) ?_
      show Goes _ _ _ _ T (mkF me_ 185 #[.val (.int p0), .val (.int p1), .val (.int p2), .val (.int p3), .val (.int p4), .val (.int p5), .val (.int v1), .val (.int (4 : Int32)), .val (.int r3), .val (.int v4), .val (.int v5), .val (.int v6), .val (.int v7), .val (.ref b20), .unset] [(.int v1), (.ref b20)])
      have zle := S.le
      refine Goes.callS (argsL := [(.ref b20), (.int v1)]) (rest := []) (W := 0) S B (rm_rs l Z aw hw b20 v1 4 (aup (aup (aup (aup (fun _ => 0) 0 v4) 1 v5) 2 v6) 3 v7) _ n0 A_b20 hrg (by decide) (own_k4 (own_kr hrg (fun q => by have := hc7.2.2 q; revert this; decide) hr3 hv4) (own_kr hrg (fun q => by have := hc7.2.2 q; revert this; decide) hr3 hv5) (own_kr hrg (fun q => by have := hc7.2.2 q; revert this; decide) hr3 hv6) (own_kr hrg (fun q => by have := hc7.2.2 q; revert this; decide) hr3 hv7))) (w6 hw) (w7 hw) (w8 hw) (w9 hw) (by decide) (by decide) (by decide) (by decide) (by decide) rfl (lenOf pd_2 rfl) rfl (Nat.le_of_eq rfl) at_185 ?_
      intro v T h S hQ
      obtain ⟨b21, u22, rfl, zb, Kc, A_b21', hf3_185⟩ := hQ
      have ne_b20__b21 : b20 ≠ b21 := Nat.ne_of_lt (Nat.lt_of_lt_of_le A_b20.lt zb)
      have g_b21 : n0 ≤ b21 := Nat.le_trans zle zb
      replace A_b20 := A_b20.keep Kc nin0
      have A_b21 := A_b21'
      show Goes _ _ _ _ T (mkF me_ 188 #[.val (.int p0), .val (.int p1), .val (.int p2), .val (.int p3), .val (.int p4), .val (.int p5), .val (.int v1), .val (.int (4 : Int32)), .val (.int r3), .val (.int v4), .val (.int v5), .val (.int v6), .val (.int v7), .val (.ref b20), .unset] [(.ref b21)])
      have hkk := (own_k4 (own_kr hrg (fun q => by have := hc7.2.2 q; revert this; decide) hr3 hv4) (own_kr hrg (fun q => by have := hc7.2.2 q; revert this; decide) hr3 hv5) (own_kr hrg (fun q => by have := hc7.2.2 q; revert this; decide) hr3 hv6) (own_kr hrg (fun q => by have := hc7.2.2 q; revert this; decide) hr3 hv7))
      refine Goes.go (fun _ => XS.astore S.here B.x rfl (B.d at_188) rfl rfl (l' := #[.val (.int p0), .val (.int p1), .val (.int p2), .val (.int p3), .val (.int p4), .val (.int p5), .val (.int v1), .val (.int (4 : Int32)), .val (.int r3), .val (.int v4), .val (.int v5), .val (.int v6), .val (.int v7), .val (.ref b20), .val (.ref b21)]) rfl) ?_
      show Goes _ _ _ _ T (mkF me_ 190 #[.val (.int p0), .val (.int p1), .val (.int p2), .val (.int p3), .val (.int p4), .val (.int p5), .val (.int v1), .val (.int (4 : Int32)), .val (.int r3), .val (.int v4), .val (.int v5), .val (.int v6), .val (.int v7), .val (.ref b20), .val (.ref b21)] [])
      refine Goes.go (fun _ => XS.aload S.here B.x rfl (B.d at_190) rfl rfl) ?_
      show Goes _ _ _ _ T (mkF me_ 192 #[.val (.int p0), .val (.int p1), .val (.int p2), .val (.int p3), .val (.int p4), .val (.int p5), .val (.int v1), .val (.int (4 : Int32)), .val (.int r3), .val (.int v4), .val (.int v5), .val (.int v6), .val (.int v7), .val (.ref b20), .val (.ref b21)] [(.ref b21)])
      refine Goes.alen S B A_b21 (z := (v1 + (1 : Int32))) (back32 (own_np hrg).1).1 at_192 ?_
      show Goes _ _ _ _ T (mkF me_ 193 #[.val (.int p0), .val (.int p1), .val (.int p2), .val (.int p3), .val (.int p4), .val (.int p5), .val (.int v1), .val (.int (4 : Int32)), .val (.int r3), .val (.int v4), .val (.int v5), .val (.int v6), .val (.int v7), .val (.ref b20), .val (.ref b21)] [(.int (v1 + (1 : Int32)))])
      refine Goes.go (fun _ => XS.iload S.here B.x rfl (B.d at_193) rfl) ?_
      show Goes _ _ _ _ T (mkF me_ 195 #[.val (.int p0), .val (.int p1), .val (.int p2), .val (.int p3), .val (.int p4), .val (.int p5), .val (.int v1), .val (.int (4 : Int32)), .val (.int r3), .val (.int v4), .val (.int v5), .val (.int v6), .val (.int v7), .val (.ref b20), .val (.ref b21)] [(.int v1), (.int (v1 + (1 : Int32)))])
      refine Goes.go (fun _ => XS.iconst S.here B.x rfl (B.d at_195)) ?_
      show Goes _ _ _ _ T (mkF me_ 196 #[.val (.int p0), .val (.int p1), .val (.int p2), .val (.int p3), .val (.int p4), .val (.int p5), .val (.int v1), .val (.int (4 : Int32)), .val (.int r3), .val (.int v4), .val (.int v5), .val (.int v6), .val (.int v7), .val (.ref b20), .val (.ref b21)] [(.int (1 : Int32)), (.int v1), (.int (v1 + (1 : Int32)))])
      refine Goes.go (fun _ => XS.iadd S.here B.x rfl (B.d at_196) rfl) ?_
      show Goes _ _ _ _ T (mkF me_ 197 #[.val (.int p0), .val (.int p1), .val (.int p2), .val (.int p3), .val (.int p4), .val (.int p5), .val (.int v1), .val (.int (4 : Int32)), .val (.int r3), .val (.int v4), .val (.int v5), .val (.int v6), .val (.int v7), .val (.ref b20), .val (.ref b21)] [(.int (v1 + (1 : Int32))), (.int (v1 + (1 : Int32)))])
      refine Goes.go (fun _ => XS.icmpYes S.here B.x rfl (pc0 := 197) (pc' := 202) rfl (B.d at_197) rfl (teq (rfl : (v1 + (1 : Int32)) = (v1 + (1 : Int32)))).1 (by decide) (by decide)) ?_
      show Goes _ _ _ _ T (mkF me_ 202 #[.val (.int p0), .val (.int p1), .val (.int p2), .val (.int p3), .val (.int p4), .val (.int p5), .val (.int v1), .val (.int (4 : Int32)), .val (.int r3), .val (.int v4), .val (.int v5), .val (.int v6), .val (.int v7), .val (.ref b20), .val (.ref b21)] [])
      refine Goes.go (fun _ => XS.aload S.here B.x rfl (B.d at_202) rfl rfl) ?_
      show Goes _ _ _ _ T (mkF me_ 204 #[.val (.int p0), .val (.int p1), .val (.int p2), .val (.int p3), .val (.int p4), .val (.int p5), .val (.int v1), .val (.int (4 : Int32)), .val (.int r3), .val (.int v4), .val (.int v5), .val (.int v6), .val (.int v7), .val (.ref b20), .val (.ref b21)] [(.ref b21)])
      refine Goes.go (fun _ => XS.iconst S.here B.x rfl (B.d at_204)) ?_
      show Goes _ _ _ _ T (mkF me_ 205 #[.val (.int p0), .val (.int p1), .val (.int p2), .val (.int p3), .val (.int p4), .val (.int p5), .val (.int v1), .val (.int (4 : Int32)), .val (.int r3), .val (.int v4), .val (.int v5), .val (.int v6), .val (.int v7), .val (.ref b20), .val (.ref b21)] [(.int (0 : Int32)), (.ref b21)])
      refine Goes.go (fun _ => XS.iload S.here B.x rfl (B.d at_205) rfl) ?_
      show Goes _ _ _ _ T (mkF me_ 207 #[.val (.int p0), .val (.int p1), .val (.int p2), .val (.int p3), .val (.int p4), .val (.int p5), .val (.int v1), .val (.int (4 : Int32)), .val (.int r3), .val (.int v4), .val (.int v5), .val (.int v6), .val (.int v7), .val (.ref b20), .val (.ref b21)] [(.int (4 : Int32)), (.int (0 : Int32)), (.ref b21)])
      refine Goes.go (fun _ => XS.iload S.here B.x rfl (B.d at_207) rfl) ?_
      show Goes _ _ _ _ T (mkF me_ 209 #[.val (.int p0), .val (.int p1), .val (.int p2), .val (.int p3), .val (.int p4), .val (.int p5), .val (.int v1), .val (.int (4 : Int32)), .val (.int r3), .val (.int v4), .val (.int v5), .val (.int v6), .val (.int v7), .val (.ref b20), .val (.ref b21)] [(.int v4), (.int (4 : Int32)), (.int (0 : Int32)), (.ref b21)])
      refine Goes.go (fun _ => XS.iload S.here B.x rfl (B.d at_209) rfl) ?_
      show Goes _ _ _ _ T (mkF me_ 211 #[.val (.int p0), .val (.int p1), .val (.int p2), .val (.int p3), .val (.int p4), .val (.int p5), .val (.int v1), .val (.int (4 : Int32)), .val (.int r3), .val (.int v4), .val (.int v5), .val (.int v6), .val (.int v7), .val (.ref b20), .val (.ref b21)] [(.int v5), (.int v4), (.int (4 : Int32)), (.int (0 : Int32)), (.ref b21)])
      refine Goes.go (fun _ => XS.iload S.here B.x rfl (B.d at_211) rfl) ?_
      show Goes _ _ _ _ T (mkF me_ 213 #[.val (.int p0), .val (.int p1), .val (.int p2), .val (.int p3), .val (.int p4), .val (.int p5), .val (.int v1), .val (.int (4 : Int32)), .val (.int r3), .val (.int v4), .val (.int v5), .val (.int v6), .val (.int v7), .val (.ref b20), .val (.ref b21)] [(.int v6), (.int v5), (.int v4), (.int (4 : Int32)), (.int (0 : Int32)), (.ref b21)])
      refine Goes.go (fun _ => XS.iload S.here B.x rfl (B.d at_213) rfl) ?_
      show Goes _ _ _ _ T (mkF me_ 215 #[.val (.int p0), .val (.int p1), .val (.int p2), .val (.int p3), .val (.int p4), .val (.int p5), .val (.int v1), .val (.int (4 : Int32)), .val (.int r3), .val (.int v4), .val (.int v5), .val (.int v6), .val (.int v7), .val (.ref b20), .val (.ref b21)] [(.int v7), (.int v6), (.int v5), (.int v4), (.int (4 : Int32)), (.int (0 : Int32)), (.ref b21)])
      refine Goes.callS (argsL := [(.ref b21), (.int (0 : Int32)), (.int (4 : Int32)), (.int v4), (.int v5), (.int v6), (.int v7)]) (rest := []) (W := 0) S B (rm_ok l Z aw hw b21 (0 : Int32) (4 : Int32) v4 v5 v6 v7 (v1 + (1 : Int32)).toNatClampNeg u22 _ n0 A_b21 (by decide) (own_hN hrg 0)) (w10 hw) (w11 hw) (w12 hw) (w13 hw) (by decide) (by decide) (by decide) (by decide) (by decide) rfl (lenOf pd_3 rfl) rfl (Nat.le_of_eq rfl) at_215 ?_
      intro v T h S hQ
      obtain ⟨rfl, hh⟩ := hQ
      replace hh := hh.symm
      subst hh
      show Goes _ _ _ _ T (mkF me_ 218 #[.val (.int p0), .val (.int p1), .val (.int p2), .val (.int p3), .val (.int p4), .val (.int p5), .val (.int v1), .val (.int (4 : Int32)), .val (.int r3), .val (.int v4), .val (.int v5), .val (.int v6), .val (.int v7), .val (.ref b20), .val (.ref b21)] [(.int (bi ((0 : Int32) < (v1 + (1 : Int32)).toNatClampNeg.toInt32 → u22 (0 : Int32).toNatClampNeg = own_below (0 : Int32) (4 : Int32) v4 v5 v6 v7)))])
      refine Goes.go (fun _ => XS.ifNo S.here B.x rfl (B.d at_218) rfl ((if0 _ _).trans (feq (bi_ne (show (0 : Int32) < (v1 + (1 : Int32)).toNatClampNeg.toInt32 → u22 (0 : Int32).toNatClampNeg = own_below (0 : Int32) (4 : Int32) v4 v5 v6 v7 from fun q => (own_fin hrg hkk hf3_185 0 (by decide) q).trans (own_bel4 _ v4 v5 v6 v7)))).1)) ?_
      show Goes _ _ _ _ T (mkF me_ 221 #[.val (.int p0), .val (.int p1), .val (.int p2), .val (.int p3), .val (.int p4), .val (.int p5), .val (.int v1), .val (.int (4 : Int32)), .val (.int r3), .val (.int v4), .val (.int v5), .val (.int v6), .val (.int v7), .val (.ref b20), .val (.ref b21)] [])
      refine Goes.go (fun _ => XS.aload S.here B.x rfl (B.d at_221) rfl rfl) ?_
      show Goes _ _ _ _ T (mkF me_ 223 #[.val (.int p0), .val (.int p1), .val (.int p2), .val (.int p3), .val (.int p4), .val (.int p5), .val (.int v1), .val (.int (4 : Int32)), .val (.int r3), .val (.int v4), .val (.int v5), .val (.int v6), .val (.int v7), .val (.ref b20), .val (.ref b21)] [(.ref b21)])
      refine Goes.go (fun _ => XS.iconst S.here B.x rfl (B.d at_223)) ?_
      show Goes _ _ _ _ T (mkF me_ 224 #[.val (.int p0), .val (.int p1), .val (.int p2), .val (.int p3), .val (.int p4), .val (.int p5), .val (.int v1), .val (.int (4 : Int32)), .val (.int r3), .val (.int v4), .val (.int v5), .val (.int v6), .val (.int v7), .val (.ref b20), .val (.ref b21)] [(.int (1 : Int32)), (.ref b21)])
      refine Goes.go (fun _ => XS.iload S.here B.x rfl (B.d at_224) rfl) ?_
      show Goes _ _ _ _ T (mkF me_ 226 #[.val (.int p0), .val (.int p1), .val (.int p2), .val (.int p3), .val (.int p4), .val (.int p5), .val (.int v1), .val (.int (4 : Int32)), .val (.int r3), .val (.int v4), .val (.int v5), .val (.int v6), .val (.int v7), .val (.ref b20), .val (.ref b21)] [(.int (4 : Int32)), (.int (1 : Int32)), (.ref b21)])
      refine Goes.go (fun _ => XS.iload S.here B.x rfl (B.d at_226) rfl) ?_
      show Goes _ _ _ _ T (mkF me_ 228 #[.val (.int p0), .val (.int p1), .val (.int p2), .val (.int p3), .val (.int p4), .val (.int p5), .val (.int v1), .val (.int (4 : Int32)), .val (.int r3), .val (.int v4), .val (.int v5), .val (.int v6), .val (.int v7), .val (.ref b20), .val (.ref b21)] [(.int v4), (.int (4 : Int32)), (.int (1 : Int32)), (.ref b21)])
      refine Goes.go (fun _ => XS.iload S.here B.x rfl (B.d at_228) rfl) ?_
      show Goes _ _ _ _ T (mkF me_ 230 #[.val (.int p0), .val (.int p1), .val (.int p2), .val (.int p3), .val (.int p4), .val (.int p5), .val (.int v1), .val (.int (4 : Int32)), .val (.int r3), .val (.int v4), .val (.int v5), .val (.int v6), .val (.int v7), .val (.ref b20), .val (.ref b21)] [(.int v5), (.int v4), (.int (4 : Int32)), (.int (1 : Int32)), (.ref b21)])
      refine Goes.go (fun _ => XS.iload S.here B.x rfl (B.d at_230) rfl) ?_
      show Goes _ _ _ _ T (mkF me_ 232 #[.val (.int p0), .val (.int p1), .val (.int p2), .val (.int p3), .val (.int p4), .val (.int p5), .val (.int v1), .val (.int (4 : Int32)), .val (.int r3), .val (.int v4), .val (.int v5), .val (.int v6), .val (.int v7), .val (.ref b20), .val (.ref b21)] [(.int v6), (.int v5), (.int v4), (.int (4 : Int32)), (.int (1 : Int32)), (.ref b21)])
      refine Goes.go (fun _ => XS.iload S.here B.x rfl (B.d at_232) rfl) ?_
      show Goes _ _ _ _ T (mkF me_ 234 #[.val (.int p0), .val (.int p1), .val (.int p2), .val (.int p3), .val (.int p4), .val (.int p5), .val (.int v1), .val (.int (4 : Int32)), .val (.int r3), .val (.int v4), .val (.int v5), .val (.int v6), .val (.int v7), .val (.ref b20), .val (.ref b21)] [(.int v7), (.int v6), (.int v5), (.int v4), (.int (4 : Int32)), (.int (1 : Int32)), (.ref b21)])
      refine Goes.callS (argsL := [(.ref b21), (.int (1 : Int32)), (.int (4 : Int32)), (.int v4), (.int v5), (.int v6), (.int v7)]) (rest := []) (W := 0) S B (rm_ok l Z aw hw b21 (1 : Int32) (4 : Int32) v4 v5 v6 v7 (v1 + (1 : Int32)).toNatClampNeg u22 _ n0 A_b21 (by decide) (own_hN hrg 1)) (w10 hw) (w11 hw) (w12 hw) (w13 hw) (by decide) (by decide) (by decide) (by decide) (by decide) rfl (lenOf pd_3 rfl) rfl (Nat.le_of_eq rfl) at_234 ?_
      intro v T h S hQ
      obtain ⟨rfl, hh⟩ := hQ
      replace hh := hh.symm
      subst hh
      show Goes _ _ _ _ T (mkF me_ 237 #[.val (.int p0), .val (.int p1), .val (.int p2), .val (.int p3), .val (.int p4), .val (.int p5), .val (.int v1), .val (.int (4 : Int32)), .val (.int r3), .val (.int v4), .val (.int v5), .val (.int v6), .val (.int v7), .val (.ref b20), .val (.ref b21)] [(.int (bi ((1 : Int32) < (v1 + (1 : Int32)).toNatClampNeg.toInt32 → u22 (1 : Int32).toNatClampNeg = own_below (1 : Int32) (4 : Int32) v4 v5 v6 v7)))])
      refine Goes.go (fun _ => XS.ifNo S.here B.x rfl (B.d at_237) rfl ((if0 _ _).trans (feq (bi_ne (show (1 : Int32) < (v1 + (1 : Int32)).toNatClampNeg.toInt32 → u22 (1 : Int32).toNatClampNeg = own_below (1 : Int32) (4 : Int32) v4 v5 v6 v7 from fun q => (own_fin hrg hkk hf3_185 1 (by decide) q).trans (own_bel4 _ v4 v5 v6 v7)))).1)) ?_
      show Goes _ _ _ _ T (mkF me_ 240 #[.val (.int p0), .val (.int p1), .val (.int p2), .val (.int p3), .val (.int p4), .val (.int p5), .val (.int v1), .val (.int (4 : Int32)), .val (.int r3), .val (.int v4), .val (.int v5), .val (.int v6), .val (.int v7), .val (.ref b20), .val (.ref b21)] [])
      refine Goes.go (fun _ => XS.aload S.here B.x rfl (B.d at_240) rfl rfl) ?_
      show Goes _ _ _ _ T (mkF me_ 242 #[.val (.int p0), .val (.int p1), .val (.int p2), .val (.int p3), .val (.int p4), .val (.int p5), .val (.int v1), .val (.int (4 : Int32)), .val (.int r3), .val (.int v4), .val (.int v5), .val (.int v6), .val (.int v7), .val (.ref b20), .val (.ref b21)] [(.ref b21)])
      refine Goes.go (fun _ => XS.iconst S.here B.x rfl (B.d at_242)) ?_
      show Goes _ _ _ _ T (mkF me_ 243 #[.val (.int p0), .val (.int p1), .val (.int p2), .val (.int p3), .val (.int p4), .val (.int p5), .val (.int v1), .val (.int (4 : Int32)), .val (.int r3), .val (.int v4), .val (.int v5), .val (.int v6), .val (.int v7), .val (.ref b20), .val (.ref b21)] [(.int (2 : Int32)), (.ref b21)])
      refine Goes.go (fun _ => XS.iload S.here B.x rfl (B.d at_243) rfl) ?_
      show Goes _ _ _ _ T (mkF me_ 245 #[.val (.int p0), .val (.int p1), .val (.int p2), .val (.int p3), .val (.int p4), .val (.int p5), .val (.int v1), .val (.int (4 : Int32)), .val (.int r3), .val (.int v4), .val (.int v5), .val (.int v6), .val (.int v7), .val (.ref b20), .val (.ref b21)] [(.int (4 : Int32)), (.int (2 : Int32)), (.ref b21)])
      refine Goes.go (fun _ => XS.iload S.here B.x rfl (B.d at_245) rfl) ?_
      show Goes _ _ _ _ T (mkF me_ 247 #[.val (.int p0), .val (.int p1), .val (.int p2), .val (.int p3), .val (.int p4), .val (.int p5), .val (.int v1), .val (.int (4 : Int32)), .val (.int r3), .val (.int v4), .val (.int v5), .val (.int v6), .val (.int v7), .val (.ref b20), .val (.ref b21)] [(.int v4), (.int (4 : Int32)), (.int (2 : Int32)), (.ref b21)])
      refine Goes.go (fun _ => XS.iload S.here B.x rfl (B.d at_247) rfl) ?_
      show Goes _ _ _ _ T (mkF me_ 249 #[.val (.int p0), .val (.int p1), .val (.int p2), .val (.int p3), .val (.int p4), .val (.int p5), .val (.int v1), .val (.int (4 : Int32)), .val (.int r3), .val (.int v4), .val (.int v5), .val (.int v6), .val (.int v7), .val (.ref b20), .val (.ref b21)] [(.int v5), (.int v4), (.int (4 : Int32)), (.int (2 : Int32)), (.ref b21)])
      refine Goes.go (fun _ => XS.iload S.here B.x rfl (B.d at_249) rfl) ?_
      show Goes _ _ _ _ T (mkF me_ 251 #[.val (.int p0), .val (.int p1), .val (.int p2), .val (.int p3), .val (.int p4), .val (.int p5), .val (.int v1), .val (.int (4 : Int32)), .val (.int r3), .val (.int v4), .val (.int v5), .val (.int v6), .val (.int v7), .val (.ref b20), .val (.ref b21)] [(.int v6), (.int v5), (.int v4), (.int (4 : Int32)), (.int (2 : Int32)), (.ref b21)])
      refine Goes.go (fun _ => XS.iload S.here B.x rfl (B.d at_251) rfl) ?_
      show Goes _ _ _ _ T (mkF me_ 253 #[.val (.int p0), .val (.int p1), .val (.int p2), .val (.int p3), .val (.int p4), .val (.int p5), .val (.int v1), .val (.int (4 : Int32)), .val (.int r3), .val (.int v4), .val (.int v5), .val (.int v6), .val (.int v7), .val (.ref b20), .val (.ref b21)] [(.int v7), (.int v6), (.int v5), (.int v4), (.int (4 : Int32)), (.int (2 : Int32)), (.ref b21)])
      refine Goes.callS (argsL := [(.ref b21), (.int (2 : Int32)), (.int (4 : Int32)), (.int v4), (.int v5), (.int v6), (.int v7)]) (rest := []) (W := 0) S B (rm_ok l Z aw hw b21 (2 : Int32) (4 : Int32) v4 v5 v6 v7 (v1 + (1 : Int32)).toNatClampNeg u22 _ n0 A_b21 (by decide) (own_hN hrg 2)) (w10 hw) (w11 hw) (w12 hw) (w13 hw) (by decide) (by decide) (by decide) (by decide) (by decide) rfl (lenOf pd_3 rfl) rfl (Nat.le_of_eq rfl) at_253 ?_
      intro v T h S hQ
      obtain ⟨rfl, hh⟩ := hQ
      replace hh := hh.symm
      subst hh
      show Goes _ _ _ _ T (mkF me_ 256 #[.val (.int p0), .val (.int p1), .val (.int p2), .val (.int p3), .val (.int p4), .val (.int p5), .val (.int v1), .val (.int (4 : Int32)), .val (.int r3), .val (.int v4), .val (.int v5), .val (.int v6), .val (.int v7), .val (.ref b20), .val (.ref b21)] [(.int (bi ((2 : Int32) < (v1 + (1 : Int32)).toNatClampNeg.toInt32 → u22 (2 : Int32).toNatClampNeg = own_below (2 : Int32) (4 : Int32) v4 v5 v6 v7)))])
      refine Goes.go (fun _ => XS.ifNo S.here B.x rfl (B.d at_256) rfl ((if0 _ _).trans (feq (bi_ne (show (2 : Int32) < (v1 + (1 : Int32)).toNatClampNeg.toInt32 → u22 (2 : Int32).toNatClampNeg = own_below (2 : Int32) (4 : Int32) v4 v5 v6 v7 from fun q => (own_fin hrg hkk hf3_185 2 (by decide) q).trans (own_bel4 _ v4 v5 v6 v7)))).1)) ?_
      show Goes _ _ _ _ T (mkF me_ 259 #[.val (.int p0), .val (.int p1), .val (.int p2), .val (.int p3), .val (.int p4), .val (.int p5), .val (.int v1), .val (.int (4 : Int32)), .val (.int r3), .val (.int v4), .val (.int v5), .val (.int v6), .val (.int v7), .val (.ref b20), .val (.ref b21)] [])
      refine Goes.go (fun _ => XS.aload S.here B.x rfl (B.d at_259) rfl rfl) ?_
      show Goes _ _ _ _ T (mkF me_ 261 #[.val (.int p0), .val (.int p1), .val (.int p2), .val (.int p3), .val (.int p4), .val (.int p5), .val (.int v1), .val (.int (4 : Int32)), .val (.int r3), .val (.int v4), .val (.int v5), .val (.int v6), .val (.int v7), .val (.ref b20), .val (.ref b21)] [(.ref b21)])
      refine Goes.go (fun _ => XS.iconst S.here B.x rfl (B.d at_261)) ?_
      show Goes _ _ _ _ T (mkF me_ 262 #[.val (.int p0), .val (.int p1), .val (.int p2), .val (.int p3), .val (.int p4), .val (.int p5), .val (.int v1), .val (.int (4 : Int32)), .val (.int r3), .val (.int v4), .val (.int v5), .val (.int v6), .val (.int v7), .val (.ref b20), .val (.ref b21)] [(.int (3 : Int32)), (.ref b21)])
      refine Goes.go (fun _ => XS.iload S.here B.x rfl (B.d at_262) rfl) ?_
      show Goes _ _ _ _ T (mkF me_ 264 #[.val (.int p0), .val (.int p1), .val (.int p2), .val (.int p3), .val (.int p4), .val (.int p5), .val (.int v1), .val (.int (4 : Int32)), .val (.int r3), .val (.int v4), .val (.int v5), .val (.int v6), .val (.int v7), .val (.ref b20), .val (.ref b21)] [(.int (4 : Int32)), (.int (3 : Int32)), (.ref b21)])
      refine Goes.go (fun _ => XS.iload S.here B.x rfl (B.d at_264) rfl) ?_
      show Goes _ _ _ _ T (mkF me_ 266 #[.val (.int p0), .val (.int p1), .val (.int p2), .val (.int p3), .val (.int p4), .val (.int p5), .val (.int v1), .val (.int (4 : Int32)), .val (.int r3), .val (.int v4), .val (.int v5), .val (.int v6), .val (.int v7), .val (.ref b20), .val (.ref b21)] [(.int v4), (.int (4 : Int32)), (.int (3 : Int32)), (.ref b21)])
      refine Goes.go (fun _ => XS.iload S.here B.x rfl (B.d at_266) rfl) ?_
      show Goes _ _ _ _ T (mkF me_ 268 #[.val (.int p0), .val (.int p1), .val (.int p2), .val (.int p3), .val (.int p4), .val (.int p5), .val (.int v1), .val (.int (4 : Int32)), .val (.int r3), .val (.int v4), .val (.int v5), .val (.int v6), .val (.int v7), .val (.ref b20), .val (.ref b21)] [(.int v5), (.int v4), (.int (4 : Int32)), (.int (3 : Int32)), (.ref b21)])
      refine Goes.go (fun _ => XS.iload S.here B.x rfl (B.d at_268) rfl) ?_
      show Goes _ _ _ _ T (mkF me_ 270 #[.val (.int p0), .val (.int p1), .val (.int p2), .val (.int p3), .val (.int p4), .val (.int p5), .val (.int v1), .val (.int (4 : Int32)), .val (.int r3), .val (.int v4), .val (.int v5), .val (.int v6), .val (.int v7), .val (.ref b20), .val (.ref b21)] [(.int v6), (.int v5), (.int v4), (.int (4 : Int32)), (.int (3 : Int32)), (.ref b21)])
      refine Goes.go (fun _ => XS.iload S.here B.x rfl (B.d at_270) rfl) ?_
      show Goes _ _ _ _ T (mkF me_ 272 #[.val (.int p0), .val (.int p1), .val (.int p2), .val (.int p3), .val (.int p4), .val (.int p5), .val (.int v1), .val (.int (4 : Int32)), .val (.int r3), .val (.int v4), .val (.int v5), .val (.int v6), .val (.int v7), .val (.ref b20), .val (.ref b21)] [(.int v7), (.int v6), (.int v5), (.int v4), (.int (4 : Int32)), (.int (3 : Int32)), (.ref b21)])
      refine Goes.callS (argsL := [(.ref b21), (.int (3 : Int32)), (.int (4 : Int32)), (.int v4), (.int v5), (.int v6), (.int v7)]) (rest := []) (W := 0) S B (rm_ok l Z aw hw b21 (3 : Int32) (4 : Int32) v4 v5 v6 v7 (v1 + (1 : Int32)).toNatClampNeg u22 _ n0 A_b21 (by decide) (own_hN hrg 3)) (w10 hw) (w11 hw) (w12 hw) (w13 hw) (by decide) (by decide) (by decide) (by decide) (by decide) rfl (lenOf pd_3 rfl) rfl (Nat.le_of_eq rfl) at_272 ?_
      intro v T h S hQ
      obtain ⟨rfl, hh⟩ := hQ
      replace hh := hh.symm
      subst hh
      show Goes _ _ _ _ T (mkF me_ 275 #[.val (.int p0), .val (.int p1), .val (.int p2), .val (.int p3), .val (.int p4), .val (.int p5), .val (.int v1), .val (.int (4 : Int32)), .val (.int r3), .val (.int v4), .val (.int v5), .val (.int v6), .val (.int v7), .val (.ref b20), .val (.ref b21)] [(.int (bi ((3 : Int32) < (v1 + (1 : Int32)).toNatClampNeg.toInt32 → u22 (3 : Int32).toNatClampNeg = own_below (3 : Int32) (4 : Int32) v4 v5 v6 v7)))])
      refine Goes.go (fun _ => XS.ifNo S.here B.x rfl (B.d at_275) rfl ((if0 _ _).trans (feq (bi_ne (show (3 : Int32) < (v1 + (1 : Int32)).toNatClampNeg.toInt32 → u22 (3 : Int32).toNatClampNeg = own_below (3 : Int32) (4 : Int32) v4 v5 v6 v7 from fun q => (own_fin hrg hkk hf3_185 3 (by decide) q).trans (own_bel4 _ v4 v5 v6 v7)))).1)) ?_
      show Goes _ _ _ _ T (mkF me_ 278 #[.val (.int p0), .val (.int p1), .val (.int p2), .val (.int p3), .val (.int p4), .val (.int p5), .val (.int v1), .val (.int (4 : Int32)), .val (.int r3), .val (.int v4), .val (.int v5), .val (.int v6), .val (.int v7), .val (.ref b20), .val (.ref b21)] [])
      refine Goes.go (fun _ => XS.aload S.here B.x rfl (B.d at_278) rfl rfl) ?_
      show Goes _ _ _ _ T (mkF me_ 280 #[.val (.int p0), .val (.int p1), .val (.int p2), .val (.int p3), .val (.int p4), .val (.int p5), .val (.int v1), .val (.int (4 : Int32)), .val (.int r3), .val (.int v4), .val (.int v5), .val (.int v6), .val (.int v7), .val (.ref b20), .val (.ref b21)] [(.ref b21)])
      refine Goes.go (fun _ => XS.iconst S.here B.x rfl (B.d at_280)) ?_
      show Goes _ _ _ _ T (mkF me_ 281 #[.val (.int p0), .val (.int p1), .val (.int p2), .val (.int p3), .val (.int p4), .val (.int p5), .val (.int v1), .val (.int (4 : Int32)), .val (.int r3), .val (.int v4), .val (.int v5), .val (.int v6), .val (.int v7), .val (.ref b20), .val (.ref b21)] [(.int (4 : Int32)), (.ref b21)])
      refine Goes.go (fun _ => XS.iload S.here B.x rfl (B.d at_281) rfl) ?_
      show Goes _ _ _ _ T (mkF me_ 283 #[.val (.int p0), .val (.int p1), .val (.int p2), .val (.int p3), .val (.int p4), .val (.int p5), .val (.int v1), .val (.int (4 : Int32)), .val (.int r3), .val (.int v4), .val (.int v5), .val (.int v6), .val (.int v7), .val (.ref b20), .val (.ref b21)] [(.int (4 : Int32)), (.int (4 : Int32)), (.ref b21)])
      refine Goes.go (fun _ => XS.iload S.here B.x rfl (B.d at_283) rfl) ?_
      show Goes _ _ _ _ T (mkF me_ 285 #[.val (.int p0), .val (.int p1), .val (.int p2), .val (.int p3), .val (.int p4), .val (.int p5), .val (.int v1), .val (.int (4 : Int32)), .val (.int r3), .val (.int v4), .val (.int v5), .val (.int v6), .val (.int v7), .val (.ref b20), .val (.ref b21)] [(.int v4), (.int (4 : Int32)), (.int (4 : Int32)), (.ref b21)])
      refine Goes.go (fun _ => XS.iload S.here B.x rfl (B.d at_285) rfl) ?_
      show Goes _ _ _ _ T (mkF me_ 287 #[.val (.int p0), .val (.int p1), .val (.int p2), .val (.int p3), .val (.int p4), .val (.int p5), .val (.int v1), .val (.int (4 : Int32)), .val (.int r3), .val (.int v4), .val (.int v5), .val (.int v6), .val (.int v7), .val (.ref b20), .val (.ref b21)] [(.int v5), (.int v4), (.int (4 : Int32)), (.int (4 : Int32)), (.ref b21)])
      refine Goes.go (fun _ => XS.iload S.here B.x rfl (B.d at_287) rfl) ?_
      show Goes _ _ _ _ T (mkF me_ 289 #[.val (.int p0), .val (.int p1), .val (.int p2), .val (.int p3), .val (.int p4), .val (.int p5), .val (.int v1), .val (.int (4 : Int32)), .val (.int r3), .val (.int v4), .val (.int v5), .val (.int v6), .val (.int v7), .val (.ref b20), .val (.ref b21)] [(.int v6), (.int v5), (.int v4), (.int (4 : Int32)), (.int (4 : Int32)), (.ref b21)])
      refine Goes.go (fun _ => XS.iload S.here B.x rfl (B.d at_289) rfl) ?_
      show Goes _ _ _ _ T (mkF me_ 291 #[.val (.int p0), .val (.int p1), .val (.int p2), .val (.int p3), .val (.int p4), .val (.int p5), .val (.int v1), .val (.int (4 : Int32)), .val (.int r3), .val (.int v4), .val (.int v5), .val (.int v6), .val (.int v7), .val (.ref b20), .val (.ref b21)] [(.int v7), (.int v6), (.int v5), (.int v4), (.int (4 : Int32)), (.int (4 : Int32)), (.ref b21)])
      refine Goes.callS (argsL := [(.ref b21), (.int (4 : Int32)), (.int (4 : Int32)), (.int v4), (.int v5), (.int v6), (.int v7)]) (rest := []) (W := 0) S B (rm_ok l Z aw hw b21 (4 : Int32) (4 : Int32) v4 v5 v6 v7 (v1 + (1 : Int32)).toNatClampNeg u22 _ n0 A_b21 (by decide) (own_hN hrg 4)) (w10 hw) (w11 hw) (w12 hw) (w13 hw) (by decide) (by decide) (by decide) (by decide) (by decide) rfl (lenOf pd_3 rfl) rfl (Nat.le_of_eq rfl) at_291 ?_
      intro v T h S hQ
      obtain ⟨rfl, hh⟩ := hQ
      replace hh := hh.symm
      subst hh
      show Goes _ _ _ _ T (mkF me_ 294 #[.val (.int p0), .val (.int p1), .val (.int p2), .val (.int p3), .val (.int p4), .val (.int p5), .val (.int v1), .val (.int (4 : Int32)), .val (.int r3), .val (.int v4), .val (.int v5), .val (.int v6), .val (.int v7), .val (.ref b20), .val (.ref b21)] [(.int (bi ((4 : Int32) < (v1 + (1 : Int32)).toNatClampNeg.toInt32 → u22 (4 : Int32).toNatClampNeg = own_below (4 : Int32) (4 : Int32) v4 v5 v6 v7)))])
      refine Goes.go (fun _ => XS.ifNo S.here B.x rfl (B.d at_294) rfl ((if0 _ _).trans (feq (bi_ne (show (4 : Int32) < (v1 + (1 : Int32)).toNatClampNeg.toInt32 → u22 (4 : Int32).toNatClampNeg = own_below (4 : Int32) (4 : Int32) v4 v5 v6 v7 from fun q => (own_fin hrg hkk hf3_185 4 (by decide) q).trans (own_bel4 _ v4 v5 v6 v7)))).1)) ?_
      show Goes _ _ _ _ T (mkF me_ 297 #[.val (.int p0), .val (.int p1), .val (.int p2), .val (.int p3), .val (.int p4), .val (.int p5), .val (.int v1), .val (.int (4 : Int32)), .val (.int r3), .val (.int v4), .val (.int v5), .val (.int v6), .val (.int v7), .val (.ref b20), .val (.ref b21)] [])
      refine Goes.go (fun _ => XS.iconst S.here B.x rfl (B.d at_297)) ?_
      show Goes _ _ _ _ T (mkF me_ 298 #[.val (.int p0), .val (.int p1), .val (.int p2), .val (.int p3), .val (.int p4), .val (.int p5), .val (.int v1), .val (.int (4 : Int32)), .val (.int r3), .val (.int v4), .val (.int v5), .val (.int v6), .val (.int v7), .val (.ref b20), .val (.ref b21)] [(.int (1 : Int32))])
      refine Goes.go (fun _ => XS.goto S.here B.x rfl (pc0 := 298) (pc' := 302) rfl (B.d at_298) (by decide) (by decide)) ?_
      show Goes _ _ _ _ T (mkF me_ 302 #[.val (.int p0), .val (.int p1), .val (.int p2), .val (.int p3), .val (.int p4), .val (.int p5), .val (.int v1), .val (.int (4 : Int32)), .val (.int r3), .val (.int v4), .val (.int v5), .val (.int v6), .val (.int v7), .val (.ref b20), .val (.ref b21)] [(.int (1 : Int32))])
      refine Goes.retN S B (by simp) at_302 (by decide) (by decide) ?_
      exact rfl
  refine Goes.go (fun _ => XS.iload S.here B.x rfl (B.d at_8) rfl) ?_
  show Goes _ _ _ _ T (mkF me_ 10 #[.val (.int p0), .val (.int p1), .val (.int p2), .val (.int p3), .val (.int p4), .val (.int p5), .val (.int v1), .unset, .unset, .unset, .unset, .unset, .unset, .unset, .unset] [(.int v1)])
  by_cases hc10 : v1 = (0 : Int32)
  · skip
    refine Goes.go (fun _ => XS.ifNo S.here B.x rfl (B.d at_10) rfl ((if0 _ _).trans (teq hc10).2)) ?_
    show Goes _ _ _ _ T (mkF me_ 13 #[.val (.int p0), .val (.int p1), .val (.int p2), .val (.int p3), .val (.int p4), .val (.int p5), .val (.int v1), .unset, .unset, .unset, .unset, .unset, .unset, .unset, .unset] [])
    refine Goes.go (fun _ => XS.iconst S.here B.x rfl (B.d at_13)) ?_
    show Goes _ _ _ _ T (mkF me_ 14 #[.val (.int p0), .val (.int p1), .val (.int p2), .val (.int p3), .val (.int p4), .val (.int p5), .val (.int v1), .unset, .unset, .unset, .unset, .unset, .unset, .unset, .unset] [(.int (0 : Int32))])
    refine Goes.go (fun _ => XS.goto S.here B.x rfl (pc0 := 14) (pc' := 23) rfl (B.d at_14) (by decide) (by decide)) ?_
    show Goes _ _ _ _ T (mkF me_ 23 #[.val (.int p0), .val (.int p1), .val (.int p2), .val (.int p3), .val (.int p4), .val (.int p5), .val (.int v1), .unset, .unset, .unset, .unset, .unset, .unset, .unset, .unset] [(.int (0 : Int32))])
    refine Goes.go (fun _ => XS.istore S.here B.x rfl (B.d at_23) rfl (l' := #[.val (.int p0), .val (.int p1), .val (.int p2), .val (.int p3), .val (.int p4), .val (.int p5), .val (.int v1), .val (.int (0 : Int32)), .unset, .unset, .unset, .unset, .unset, .unset, .unset]) rfl) ?_
    show Goes _ _ _ _ T (mkF me_ 25 #[.val (.int p0), .val (.int p1), .val (.int p2), .val (.int p3), .val (.int p4), .val (.int p5), .val (.int v1), .val (.int (0 : Int32)), .unset, .unset, .unset, .unset, .unset, .unset, .unset] [])
    exact J2 T (0 : Int32) S (own_c7a hc10)
  · skip
    refine Goes.go (fun _ => XS.ifYes S.here B.x rfl (pc0 := 10) (pc' := 17) rfl (B.d at_10) rfl ((if0 _ _).trans (feq hc10).2) (by decide) (by decide)) ?_
    show Goes _ _ _ _ T (mkF me_ 17 #[.val (.int p0), .val (.int p1), .val (.int p2), .val (.int p3), .val (.int p4), .val (.int p5), .val (.int v1), .unset, .unset, .unset, .unset, .unset, .unset, .unset, .unset] [])
    refine Goes.go (fun _ => XS.iloadN S.here B.x rfl (B.d at_17) rfl) ?_
    show Goes _ _ _ _ T (mkF me_ 18 #[.val (.int p0), .val (.int p1), .val (.int p2), .val (.int p3), .val (.int p4), .val (.int p5), .val (.int v1), .unset, .unset, .unset, .unset, .unset, .unset, .unset, .unset] [(.int p1)])
    refine Goes.go (fun _ => XS.bipush S.here B.x rfl (B.d at_18)) ?_
    show Goes _ _ _ _ T (mkF me_ 20 #[.val (.int p0), .val (.int p1), .val (.int p2), .val (.int p3), .val (.int p4), .val (.int p5), .val (.int v1), .unset, .unset, .unset, .unset, .unset, .unset, .unset, .unset] [(.int (7 : Int32)), (.int p1)])
    refine Goes.go (fun _ => XS.iand S.here B.x rfl (B.d at_20) rfl) ?_
    show Goes _ _ _ _ T (mkF me_ 21 #[.val (.int p0), .val (.int p1), .val (.int p2), .val (.int p3), .val (.int p4), .val (.int p5), .val (.int v1), .unset, .unset, .unset, .unset, .unset, .unset, .unset, .unset] [(.int (p1 &&& (7 : Int32)))])
    refine Goes.go (fun _ => XS.iconst S.here B.x rfl (B.d at_21)) ?_
    show Goes _ _ _ _ T (mkF me_ 22 #[.val (.int p0), .val (.int p1), .val (.int p2), .val (.int p3), .val (.int p4), .val (.int p5), .val (.int v1), .unset, .unset, .unset, .unset, .unset, .unset, .unset, .unset] [(.int (5 : Int32)), (.int (p1 &&& (7 : Int32)))])
    refine Goes.irem S B at_22 (by decide) ?_
    show Goes _ _ _ _ T (mkF me_ 23 #[.val (.int p0), .val (.int p1), .val (.int p2), .val (.int p3), .val (.int p4), .val (.int p5), .val (.int v1), .unset, .unset, .unset, .unset, .unset, .unset, .unset, .unset] [(.int ((p1 &&& (7 : Int32)) % (5 : Int32)))])
    generalize hv23 : ((p1 &&& (7 : Int32)) % (5 : Int32)) = v23
    refine Goes.go (fun _ => XS.istore S.here B.x rfl (B.d at_23) rfl (l' := #[.val (.int p0), .val (.int p1), .val (.int p2), .val (.int p3), .val (.int p4), .val (.int p5), .val (.int v1), .val (.int v23), .unset, .unset, .unset, .unset, .unset, .unset, .unset]) rfl) ?_
    show Goes _ _ _ _ T (mkF me_ 25 #[.val (.int p0), .val (.int p1), .val (.int p2), .val (.int p3), .val (.int p4), .val (.int p5), .val (.int v1), .val (.int v23), .unset, .unset, .unset, .unset, .unset, .unset, .unset] [])
    exact J2 T v23 S (own_c7b hv23 hc10)
set_option maxRecDepth 65536 in
set_option maxHeartbeats 40000000 in
theorem comes_1 {Post : Tables → Env → Array Value → State → Outcome → State → Prop} (hpost : ∀ tb e args s v u, (limb_1_1.after args s (.returned v) u = true ∧ limb_1_2.after args s (.returned v) u = true ∧ True) → FrameEnd s (.returned v) u (Jvm.fieldLocs frame_1_writes args s ++ Jvm.arrayLocs frame_1_arrays args s ++ Jvm.staticLocs frame_1_statics s) 16 128 → Post tb e args s (.returned v) u) :
    ArmFor flags0 classFile x code maxLocals ret World_1 tables_1 room_1 Calls_1 rest_1 Pre_1 Post := by
  intro l hfl _ _ p e ha hc hk s m args below hf hA hF happ hP
  obtain ⟨hcalls, hrest, hpre⟩ := hP
  obtain ⟨-, -, -, hnamed, -, -, -, hat⟩ := (Spec.applies_iff hf).mp happ
  obtain ⟨hg, hn⟩ := and_e (Cond.before_iff.mp (show (Jvm.Cond.and given_1 narrow_1).before args s = true from hpre))
  obtain ⟨g0, k0⟩ := and_e hg
  obtain ⟨g1, k1⟩ := and_e k0
  obtain ⟨g2, k2⟩ := and_e k1
  obtain ⟨g3, k3⟩ := and_e k2
  obtain ⟨g4, k4⟩ := and_e k3
  obtain ⟨g5, k5⟩ := and_e k4
  have g6 := k5
  obtain ⟨w0, w1, w2, w3, w4, w5, rfl⟩ : ∃ w0 w1 w2 w3 w4 w5 : Value, args = #[w0, w1, w2, w3, w4, w5] := by
    have hs : args.size = 6 := by simpa [Cond.value, given_1] using g0
    obtain ⟨L⟩ := args
    match L, hs with
    | [w0, w1, w2, w3, w4, w5], _ => exact ⟨w0, w1, w2, w3, w4, w5, rfl⟩
  have hw := fun d (hd : d ∈ tables_1) => atoms_spec (ws := Jvm.Cond.code x code maxLocals ret :: tables_1) hat d (List.mem_cons_of_mem _ hd)
  obtain ⟨i0, ei0⟩ := is_v g1
  obtain rfl : w0 = (.int i0) := Option.some.inj ei0
  obtain ⟨i1, ei1⟩ := is_v g2
  obtain rfl : w1 = (.int i1) := Option.some.inj ei1
  obtain ⟨i2, ei2⟩ := is_v g3
  obtain rfl : w2 = (.int i2) := Option.some.inj ei2
  obtain ⟨i3, ei3⟩ := is_v g4
  obtain rfl : w3 = (.int i3) := Option.some.inj ei3
  obtain ⟨i4, ei4⟩ := is_v g5
  obtain rfl : w4 = (.int i4) := Option.some.inj ei4
  obtain ⟨i5, ei5⟩ := is_v g6
  obtain rfl : w5 = (.int i5) := Option.some.inj ei5
  obtain ⟨n, o, h1, h2, h3, _, L, rfl, ⟨N, rfl⟩, hq⟩ := rm0 l s _ hw i0 i1 i2 i3 i4 i5 s.heap s.heap.size (Nat.le_refl _) tables_1 p e ha hc hk s m _ below hf ((Spec.applies_iff_loose hf).mp happ).1 ⟨rfl, State.Warmed39.refl s, rfl⟩ trivial
  refine ⟨n, _, h1, h2, h3, hpost _ _ _ _ _ _ ⟨Cond.after_iff.mpr rfl, Cond.after_iff.mpr (eq_i res_at (Term.int_eval (1)) rfl), trivial⟩ ⟨hq.1, hq.2.1, (hq.2.2.sift fun y hy => Or.inr (N y hy)).mono (by decide) (by decide)⟩⟩
theorem main_1_1 : Claimed_1_1 := comes_1 fun _ _ _ _ _ _ h hF => ⟨h.1, hF⟩
theorem main_1_2 : Claimed_1_2 := comes_1 fun _ _ _ _ _ _ h hF => ⟨h.2.1, hF⟩
end Jvm.Pilot.@@N@@
namespace Jvm.Pilot.@@N@@
open Jvm Jvm.ClassFile Sem Op Lib Jvm.Free Jvm.Stand Jvm.Pilot.@@N@@.Jvm.D
/-! MADE BY PROGRAM (witnessworld.py) out of the Statement's table words and the real class files: 10 classes; the members and pool entries that the words name. The judged class is class 1, her method 1. -/
namespace start1
open Jvm.ClassFile
def u (s : String) : CpInfo := .utf8 (stringToUtf16 s)
/-- a pool by its gaps: so many unusable entries, then the entry; so many at the end -/
def gap : Nat → List CpInfo → List CpInfo
  | 0, r => r
  | n + 1, r => .unusable :: gap n r
def poolList (es : List (Nat × CpInfo)) (last : Nat) : List CpInfo := es.foldr (fun e r => gap e.1 (e.2 :: r)) (gap last [])
def pool (es : List (Nat × CpInfo)) (last : Nat) : Array CpInfo := ⟨poolList es last⟩
def fileOf (pool : Array CpInfo) (this : Nat) (attrs : Array Attribute := #[]) (ms : Array MethodInfo := #[]) (fl : Nat := 33) (sup : Nat := 0) (ifs : Array Nat := #[]) (fds : Array FieldInfo := #[]) : ClassFile where
  minorVersion := 0
  majorVersion := 65
  constantPool := pool
  accessFlags := fl
  thisClass := this
  superClass := sup
  interfaces := ifs
  fields := fds
  methods := ms
  attributes := attrs
def plain (name : String) (sup : Option ClassId) : Class where
  name := name
  kind := .ordinary
  loader := none
  accessFlags := 33
  super := sup
  interfaces := #[]
  cf := none
  fields := #[]
  methods := #[]
  instanceTypes := #[]
  staticTypes := #[]
  resolved := #[]
  callSites := []
  init := .initialized
  statics := none
  mirror := none

def pool0 : Array CpInfo := pool [(5, u "<init>"), (0, u "()V"), (1, .class_ 10), (1, u "java/lang/Object")] 113

def k0m0 : Method := { name := "<init>", desc := "()V", sig := { parameters := [], returnType := none }, accessFlags := 1, code := none }
/-- java/lang/Object -/
def k0 : Class := { plain "java/lang/Object" none with
  accessFlags := 33
  interfaces := #[]
  cf := some (fileOf pool0 8 #[] #[{ accessFlags := 1, nameIndex := 5, descriptorIndex := 6, attributes := #[] }] 33 0 #[] #[])
  fields := #[]
  methods := #[k0m0]
  instanceTypes := #[]
  staticTypes := #[]
  resolved := Array.replicate 124 none
  statics := none }

def pool1 : Array CpInfo := pool [(2, .class_ 4), (1, u "java/lang/Object"), (0, u "<init>"), (0, u "()V"), (0, .methodref 8 9), (0, .class_ 10), (0, .nameAndType 11 12), (0, u "java/lang/Math"), (0, u "max"), (0, u "(II)I"), (0, .integer 2147483647), (0, .methodref 15 16), (0, .class_ 17), (0, .nameAndType 18 19), (0, u "com/example/holdfast/holdfast/Instance"), (0, u "runStarts"), (0, u "([II)[I"), (0, .methodref 21 22), (0, .class_ 23), (0, .nameAndType 24 25), (0, u "com/example/holdfast/holdfast/InstanceRunStartsPinLaw"), (0, u "ok"), (0, u "([IIIIIII)Z"), (0, .methodref 21 27), (0, .nameAndType 28 29), (0, u "below"), (0, u "(IIIIII)I"), (2, u "law"), (0, u "(IIIIII)Z")] 5

def k1m0 : Method := { name := "<init>", desc := "()V", sig := { parameters := [], returnType := none }, accessFlags := 1, code := none }
def k1c1 : Code := { maxStack := 7, maxLocals := 15, code := code, exceptionTable := #[], attributes := #[] }
def k1m1 : Method := { name := "law", desc := "(IIIIII)Z", sig := { parameters := [.int, .int, .int, .int, .int, .int], returnType := some .boolean }, accessFlags := 9, code := some k1c1 }
def k1c2 : Code := { maxStack := 7, maxLocals := 7, code := method_3_code, exceptionTable := #[], attributes := #[] }
def k1m2 : Method := { name := "ok", desc := "([IIIIIII)Z", sig := { parameters := [(.array .int), .int, .int, .int, .int, .int, .int], returnType := some .boolean }, accessFlags := 10, code := some k1c2 }
def k1c3 : Code := { maxStack := 2, maxLocals := 7, code := method_4_code, exceptionTable := #[], attributes := #[] }
def k1m3 : Method := { name := "below", desc := "(IIIIII)I", sig := { parameters := [.int, .int, .int, .int, .int, .int], returnType := some .int }, accessFlags := 10, code := some k1c3 }
/-- com/example/holdfast/holdfast/InstanceRunStartsPinLaw -/
def k1 : Class := { plain "com/example/holdfast/holdfast/InstanceRunStartsPinLaw" (some 0) with
  accessFlags := 49
  interfaces := #[]
  cf := some (fileOf pool1 21 #[] #[{ accessFlags := 1, nameIndex := 5, descriptorIndex := 6, attributes := #[] }, { accessFlags := 9, nameIndex := 32, descriptorIndex := 33, attributes := #[] }, { accessFlags := 10, nameIndex := 24, descriptorIndex := 25, attributes := #[] }, { accessFlags := 10, nameIndex := 28, descriptorIndex := 29, attributes := #[] }] 49 2 #[] #[])
  fields := #[]
  methods := #[k1m0, k1m1, k1m2, k1m3]
  instanceTypes := #[]
  staticTypes := #[]
  resolved := Array.replicate 39 none
  statics := none }

def pool2 : Array CpInfo := pool [(1, .class_ 2), (0, u "java/lang/Math"), (1, .class_ 6), (1, u "java/lang/Object"), (0, u "<init>"), (0, u "()V"), (89, .class_ 100), (1, u "java/lang/Math$RandomNumberGeneratorHolder"), (71, u "negativeZeroFloatBits"), (0, u "J"), (2, u "negativeZeroDoubleBits"), (21, u "max"), (46, u "$assertionsDisabled"), (0, u "Z"), (88, u "(II)I"), (2, u "twoToTheDoubleScaleDown"), (0, u "D"), (4, u "twoToTheDoubleScaleUp"), (9, u "E"), (3, u "PI"), (2, u "TAU"), (2, u "DEGREES_TO_RADIANS"), (0, u "RADIANS_TO_DEGREES")] 94

def k2m0 : Method := { name := "<init>", desc := "()V", sig := { parameters := [], returnType := none }, accessFlags := 2, code := none }
def k2c1 : Code := { maxStack := 2, maxLocals := 2, code := jdk_29_method_65_code, exceptionTable := #[], attributes := #[] }
def k2m1 : Method := { name := "max", desc := "(II)I", sig := { parameters := [.int, .int], returnType := some .int }, accessFlags := 9, code := some k2c1 }
/-- java/lang/Math -/
def k2 : Class := { plain "java/lang/Math" (some 0) with
  accessFlags := 49
  interfaces := #[]
  cf := some (fileOf pool2 1 #[.nestMembers #[98]] #[{ accessFlags := 2, nameIndex := 7, descriptorIndex := 8, attributes := #[] }, { accessFlags := 9, nameIndex := 198, descriptorIndex := 335, attributes := #[] }] 49 4 #[] #[{ accessFlags := 25, nameIndex := 354, descriptorIndex := 339, attributes := #[] }, { accessFlags := 25, nameIndex := 358, descriptorIndex := 339, attributes := #[] }, { accessFlags := 25, nameIndex := 361, descriptorIndex := 339, attributes := #[] }, { accessFlags := 26, nameIndex := 364, descriptorIndex := 339, attributes := #[] }, { accessFlags := 26, nameIndex := 365, descriptorIndex := 339, attributes := #[] }, { accessFlags := 26, nameIndex := 172, descriptorIndex := 173, attributes := #[] }, { accessFlags := 26, nameIndex := 176, descriptorIndex := 173, attributes := #[] }, { accessFlags := 8, nameIndex := 344, descriptorIndex := 339, attributes := #[] }, { accessFlags := 8, nameIndex := 338, descriptorIndex := 339, attributes := #[] }, { accessFlags := 4120, nameIndex := 245, descriptorIndex := 246, attributes := #[] }])
  fields := #[{ name := "E", type := .double, accessFlags := 25, slot := 0, constantValue := 0 }, { name := "PI", type := .double, accessFlags := 25, slot := 1, constantValue := 0 }, { name := "TAU", type := .double, accessFlags := 25, slot := 2, constantValue := 0 }, { name := "DEGREES_TO_RADIANS", type := .double, accessFlags := 26, slot := 3, constantValue := 0 }, { name := "RADIANS_TO_DEGREES", type := .double, accessFlags := 26, slot := 4, constantValue := 0 }, { name := "negativeZeroFloatBits", type := .long, accessFlags := 26, slot := 5, constantValue := 0 }, { name := "negativeZeroDoubleBits", type := .long, accessFlags := 26, slot := 6, constantValue := 0 }, { name := "twoToTheDoubleScaleUp", type := .double, accessFlags := 8, slot := 7, constantValue := 0 }, { name := "twoToTheDoubleScaleDown", type := .double, accessFlags := 8, slot := 8, constantValue := 0 }, { name := "$assertionsDisabled", type := .boolean, accessFlags := 4120, slot := 9, constantValue := 0 }]
  methods := #[k2m0, k2m1]
  instanceTypes := #[]
  staticTypes := #[.double, .double, .double, .double, .double, .long, .long, .double, .double, .boolean]
  resolved := Array.replicate 460 none
  statics := none }

def pool3 : Array CpInfo := pool [(2, .class_ 4), (1, u "java/lang/Object"), (2, .class_ 8), (0, u "com/example/holdfast/holdfast/Instance$Pairing"), (6, u "I"), (1, .class_ 19), (1, u "com/example/holdfast/holdfast/Instance"), (0, u "leftCount"), (2, u "rightCount"), (3, u "[I"), (5, u "([II)[I"), (2, u "pairLeft"), (5, u "pairRight"), (5, u "pairLeftRank"), (5, u "pairRightRank"), (2, u "runStarts"), (2, u "leftStart"), (8, u "leftOrder"), (2, u "ownerOrder"), (5, u "rightStart"), (2, u "rightOrder"), (5, u "ownerStart"), (2, u "oneSidedCount"), (5, u "leftCapacity"), (2, u "rightCapacity"), (2, u "rightOwner"), (2, u "ownerCapacity"), (2, u "closing"), (0, u "[Z")] 117

def k3c0 : Code := { maxStack := 5, maxLocals := 7, code := prog_8_method_42_code, exceptionTable := #[], attributes := #[] }
def k3m0 : Method := { name := "runStarts", desc := "([II)[I", sig := { parameters := [(.array .int), .int], returnType := some (.array .int) }, accessFlags := 8, code := some k3c0 }
/-- com/example/holdfast/holdfast/Instance -/
def k3 : Class := { plain "com/example/holdfast/holdfast/Instance" (some 0) with
  accessFlags := 49
  interfaces := #[]
  cf := some (fileOf pool3 17 #[.nestMembers #[7]] #[{ accessFlags := 8, nameIndex := 57, descriptorIndex := 33, attributes := #[] }] 49 2 #[] #[{ accessFlags := 18, nameIndex := 20, descriptorIndex := 15, attributes := #[] }, { accessFlags := 18, nameIndex := 23, descriptorIndex := 15, attributes := #[] }, { accessFlags := 18, nameIndex := 36, descriptorIndex := 27, attributes := #[] }, { accessFlags := 18, nameIndex := 42, descriptorIndex := 27, attributes := #[] }, { accessFlags := 18, nameIndex := 48, descriptorIndex := 27, attributes := #[] }, { accessFlags := 18, nameIndex := 54, descriptorIndex := 27, attributes := #[] }, { accessFlags := 18, nameIndex := 60, descriptorIndex := 27, attributes := #[] }, { accessFlags := 18, nameIndex := 69, descriptorIndex := 27, attributes := #[] }, { accessFlags := 18, nameIndex := 78, descriptorIndex := 27, attributes := #[] }, { accessFlags := 18, nameIndex := 81, descriptorIndex := 27, attributes := #[] }, { accessFlags := 18, nameIndex := 87, descriptorIndex := 27, attributes := #[] }, { accessFlags := 18, nameIndex := 72, descriptorIndex := 27, attributes := #[] }, { accessFlags := 18, nameIndex := 90, descriptorIndex := 15, attributes := #[] }, { accessFlags := 18, nameIndex := 96, descriptorIndex := 27, attributes := #[] }, { accessFlags := 18, nameIndex := 99, descriptorIndex := 27, attributes := #[] }, { accessFlags := 18, nameIndex := 102, descriptorIndex := 27, attributes := #[] }, { accessFlags := 18, nameIndex := 105, descriptorIndex := 27, attributes := #[] }, { accessFlags := 18, nameIndex := 108, descriptorIndex := 109, attributes := #[] }])
  fields := #[{ name := "leftCount", type := .int, accessFlags := 18, slot := 0, constantValue := 0 }, { name := "rightCount", type := .int, accessFlags := 18, slot := 1, constantValue := 0 }, { name := "pairLeft", type := (.array .int), accessFlags := 18, slot := 2, constantValue := 0 }, { name := "pairRight", type := (.array .int), accessFlags := 18, slot := 3, constantValue := 0 }, { name := "pairLeftRank", type := (.array .int), accessFlags := 18, slot := 4, constantValue := 0 }, { name := "pairRightRank", type := (.array .int), accessFlags := 18, slot := 5, constantValue := 0 }, { name := "leftStart", type := (.array .int), accessFlags := 18, slot := 6, constantValue := 0 }, { name := "leftOrder", type := (.array .int), accessFlags := 18, slot := 7, constantValue := 0 }, { name := "rightStart", type := (.array .int), accessFlags := 18, slot := 8, constantValue := 0 }, { name := "rightOrder", type := (.array .int), accessFlags := 18, slot := 9, constantValue := 0 }, { name := "ownerStart", type := (.array .int), accessFlags := 18, slot := 10, constantValue := 0 }, { name := "ownerOrder", type := (.array .int), accessFlags := 18, slot := 11, constantValue := 0 }, { name := "oneSidedCount", type := .int, accessFlags := 18, slot := 12, constantValue := 0 }, { name := "leftCapacity", type := (.array .int), accessFlags := 18, slot := 13, constantValue := 0 }, { name := "rightCapacity", type := (.array .int), accessFlags := 18, slot := 14, constantValue := 0 }, { name := "rightOwner", type := (.array .int), accessFlags := 18, slot := 15, constantValue := 0 }, { name := "ownerCapacity", type := (.array .int), accessFlags := 18, slot := 16, constantValue := 0 }, { name := "closing", type := (.array .boolean), accessFlags := 18, slot := 17, constantValue := 0 }]
  methods := #[k3m0]
  instanceTypes := #[.int, .int, (.array .int), (.array .int), (.array .int), (.array .int), (.array .int), (.array .int), (.array .int), (.array .int), (.array .int), (.array .int), .int, (.array .int), (.array .int), (.array .int), (.array .int), (.array .boolean)]
  staticTypes := #[]
  resolved := Array.replicate 227 none
  statics := none }

def pool4 : Array CpInfo := pool [(1, u "java/lang/Cloneable"), (0, .class_ 1), (0, u "java/lang/Object"), (0, .class_ 3)] 3

/-- java/lang/Cloneable -/
def k4 : Class := { plain "java/lang/Cloneable" (some 0) with
  accessFlags := 1537
  interfaces := #[]
  cf := some (fileOf pool4 2 #[] #[] 1537 4 #[] #[])
  fields := #[]
  methods := #[]
  instanceTypes := #[]
  staticTypes := #[]
  resolved := Array.replicate 8 none
  statics := none }

def pool5 : Array CpInfo := pool [(1, u "java/io/Serializable"), (0, .class_ 1), (0, u "java/lang/Object"), (0, .class_ 3)] 3

/-- java/io/Serializable -/
def k5 : Class := { plain "java/io/Serializable" (some 0) with
  accessFlags := 1537
  interfaces := #[]
  cf := some (fileOf pool5 2 #[] #[] 1537 4 #[] #[])
  fields := #[]
  methods := #[]
  instanceTypes := #[]
  staticTypes := #[]
  resolved := Array.replicate 8 none
  statics := none }

/-- the primitive byte -/
def k6 : Class := { plain "byte" none with kind := .primitive 'B', accessFlags := 0x411 }
/-- [B -/
def k7 : Class := { plain "[B" (some 0) with kind := .array 6 .byte, interfaces := #[4, 5], accessFlags := 1041 }

/-- the primitive int -/
def k8 : Class := { plain "int" none with kind := .primitive 'I', accessFlags := 0x411 }
/-- [I -/
def k9 : Class := { plain "[I" (some 0) with kind := .array 8 .int, interfaces := #[4, 5], accessFlags := 1041 }

def heap : Heap := #[]
def classes : Array Class := #[k0, k1, k2, k3, k4, k5, k6, k7, k8, k9]
def interned : List (Array UInt16 × Addr) := []
def slotsUsed : Nat := 0
def theMethod : MethodId := ⟨1, 1⟩
def args0 : Array Value := #[.int 5, .int 5, .int 5, .int 5, .int 5, .int 5]
def aboutOver (below : List Frame) : State where
  vm := { classes := classes, interned := interned.toArray }
  heap := heap
  slotsUsed := slotsUsed
  threads := #[{ frames := .invoking theMethod args0 :: below }]
def below0 : List Frame := [.native { method := ⟨0, 0⟩, args := #[] }]
def about1 : State := aboutOver below0
def p0 : Program := .bare "" "" ""
def e0 : Env := launch0.env 0 0 0
theorem w_frames : about1.frames = Frame.invoking theMethod args0 :: below0 := rfl
set_option maxRecDepth 65536 in
theorem w_args : argsFit about1.vm theMethod args0 = true := by decide +kernel
set_option maxRecDepth 65536 in
theorem w_heap : heapFits about1 = true := by decide +kernel
set_option maxRecDepth 65536 in
theorem w_runnable : about1.curStatus? = some .runnable := by decide +kernel
set_option maxRecDepth 65536 in
theorem w_alone : about1.alone = true := by decide +kernel
set_option maxRecDepth 65536 in
theorem w_named : about1.methodNamed? x = some theMethod := by decide +kernel
set_option maxRecDepth 65536 in
theorem w_hears : about1.hears theMethod below0 = true := by decide +kernel
set_option maxRecDepth 65536 in
theorem w_ripe : about1.ripe theMethod args0 below0 = true := by decide +kernel
theorem w_running : about1.status = .running := rfl
set_option maxRecDepth 65536 in
theorem w_room : about1.hasRoom e0.platform room_1 = true :=
  launch0.hasRoom_least _ room_1 (by decide +kernel) (by decide +kernel) (by decide +kernel) (by decide +kernel) (by decide +kernel) (by decide +kernel)
theorem allAtoms_all (ts : List Jvm.Cond) (a : Array Jvm.Value) (st : Jvm.State) : (allAtoms ts).before a st = ts.all (fun c => c.before a st) := by
  induction ts with
  | nil => rfl
  | cons c t ih =>
    show (Jvm.Cond.and c (allAtoms t)).before a st = _
    rw [Jvm.Cond.before_and, ih, List.all_cons]
def words1 : List Jvm.Cond := Jvm.Cond.code x code maxLocals ret :: tables_1
/-- a 'code' word, met by the world's own term for the bytes: nothing is compared byte by byte -/
theorem code_word {y : MethodName} {bytes : ByteArray} {mx : Nat} {rt : Option FieldType} {a : Array Value} {s : State} {m : MethodId} {meth : Method} {c : Code} (h1 : s.methodNamed? y = some m) (h2 : s.vm.method? m = some meth) (h3 : meth.code = some c) (h4 : c.code = bytes)
    (h5 : (c.maxLocals == mx && c.exceptionTable.isEmpty && decide (c.maxStack ≤ mostOperands) && decide (meth.sig.returnType = rt) && !meth.locks && decide (parseMethodDescriptor y.desc = some meth.sig)) = true) : (Jvm.Cond.code y bytes mx rt).before a s = true := by
  simp only [Bool.and_eq_true, beq_iff_eq, Bool.not_eq_true', decide_eq_true_eq] at h5
  obtain ⟨⟨⟨⟨⟨g1, g2⟩, g3⟩, g4⟩, g5⟩, g6⟩ := h5
  simp [Cond.before, Cond.holds, Cond.value, h1, h2, h3, h4, g1, g2, g3, g4, g5, g6]
def isCode : Jvm.Cond → Bool
  | .code _ _ _ _ => true
  | _ => false
theorem all_split {L : List Jvm.Cond} {P : Jvm.Cond → Bool} (h1 : L.all (fun c => isCode c || P c) = true) (h2 : ∀ c ∈ L.filter isCode, P c = true) : L.all P = true := by
  refine List.all_eq_true.mpr fun c hc => ?_
  have h := List.all_eq_true.mp h1 c hc
  rcases Bool.eq_false_or_eq_true (isCode c) with hi | hi
  · exact h2 c (List.mem_filter.mpr ⟨hc, hi⟩)
  · simpa [hi] using h
set_option maxRecDepth 65536 in
theorem w_c0 : (Jvm.Cond.code x code maxLocals ret).before args0 about1 = true := code_word (m := ⟨1, 1⟩) (meth := k1m1) (c := k1c1) (by decide +kernel) rfl rfl rfl (by decide +kernel)
set_option maxRecDepth 65536 in
theorem w_c1 : (Jvm.Cond.code ({ cls := "java/lang/Math", name := "max", desc := "(II)I" } : Jvm.MethodName) jdk_29_method_65_code (2 : Nat) (Option.some Jvm.ClassFile.FieldType.int)).before args0 about1 = true := code_word (m := ⟨2, 1⟩) (meth := k2m1) (c := k2c1) (by decide +kernel) rfl rfl rfl (by decide +kernel)
set_option maxRecDepth 65536 in
theorem w_c2 : (Jvm.Cond.code ({ cls := "com/example/holdfast/holdfast/Instance", name := "runStarts", desc := "([II)[I" } : Jvm.MethodName) prog_8_method_42_code (7 : Nat) (Option.some (Jvm.ClassFile.FieldType.array Jvm.ClassFile.FieldType.int))).before args0 about1 = true := code_word (m := ⟨3, 0⟩) (meth := k3m0) (c := k3c0) (by decide +kernel) rfl rfl rfl (by decide +kernel)
set_option maxRecDepth 65536 in
theorem w_c3 : (Jvm.Cond.code ({ cls := "com/example/holdfast/holdfast/InstanceRunStartsPinLaw", name := "ok", desc := "([IIIIIII)Z" } : Jvm.MethodName) method_3_code (7 : Nat) (Option.some Jvm.ClassFile.FieldType.boolean)).before args0 about1 = true := code_word (m := ⟨1, 2⟩) (meth := k1m2) (c := k1c2) (by decide +kernel) rfl rfl rfl (by decide +kernel)
set_option maxRecDepth 65536 in
theorem w_c4 : (Jvm.Cond.code ({ cls := "com/example/holdfast/holdfast/InstanceRunStartsPinLaw", name := "below", desc := "(IIIIII)I" } : Jvm.MethodName) method_4_code (7 : Nat) (Option.some Jvm.ClassFile.FieldType.int)).before args0 about1 = true := code_word (m := ⟨1, 3⟩) (meth := k1m3) (c := k1c3) (by decide +kernel) rfl rfl rfl (by decide +kernel)
def codes1 : List Jvm.Cond := [Jvm.Cond.code x code maxLocals ret, Jvm.Cond.code ({ cls := "java/lang/Math", name := "max", desc := "(II)I" } : Jvm.MethodName) jdk_29_method_65_code (2 : Nat) (Option.some Jvm.ClassFile.FieldType.int), Jvm.Cond.code ({ cls := "com/example/holdfast/holdfast/Instance", name := "runStarts", desc := "([II)[I" } : Jvm.MethodName) prog_8_method_42_code (7 : Nat) (Option.some (Jvm.ClassFile.FieldType.array Jvm.ClassFile.FieldType.int)), Jvm.Cond.code ({ cls := "com/example/holdfast/holdfast/InstanceRunStartsPinLaw", name := "ok", desc := "([IIIIIII)Z" } : Jvm.MethodName) method_3_code (7 : Nat) (Option.some Jvm.ClassFile.FieldType.boolean), Jvm.Cond.code ({ cls := "com/example/holdfast/holdfast/InstanceRunStartsPinLaw", name := "below", desc := "(IIIIII)I" } : Jvm.MethodName) method_4_code (7 : Nat) (Option.some Jvm.ClassFile.FieldType.int)]
set_option maxRecDepth 65536 in
theorem codes_eq : words1.filter isCode = codes1 := rfl
theorem w_codes : ∀ c ∈ words1.filter isCode, c.before args0 about1 = true := by
  rw [codes_eq]
  intro c hc
  simp only [codes1, List.mem_cons, List.not_mem_nil, or_false] at hc
  rcases hc with rfl | rfl | rfl | rfl | rfl
  · exact w_c0
  · exact w_c1
  · exact w_c2
  · exact w_c3
  · exact w_c4
set_option maxRecDepth 65536 in
theorem w_t1 : words1.all (fun c => isCode c || c.before args0 about1) = true := by decide +kernel
theorem w_tables : (allAtoms (Jvm.Cond.code x code maxLocals ret :: tables_1)).before args0 about1 = true := by
  rw [allAtoms_all]
  show words1.all (fun c => c.before args0 about1) = true
  refine all_split ?_ w_codes
  rw [w_t1]
set_option maxRecDepth 65536 in
theorem w_case : (Jvm.Cond.and given_1 narrow_1).before args0 about1 = true := by decide +kernel
theorem w_applies : (headSpec (Jvm.Cond.code x code maxLocals ret :: tables_1) room_1).applies x e0.platform about1 = true :=
  (Spec.applies_iff w_frames).mpr ⟨w_running, w_runnable, w_alone, w_named, w_hears, w_ripe, w_room, w_tables⟩
theorem atStart : AtStart classFile x code maxLocals ret World_1 tables_1 room_1 Calls_1 rest_1 Pre_1 launch0 p0 e0 about1 theMethod args0 below0 :=
  ⟨lists_1, trivial, launch0.admits_env _ _ _, launch0.least_env, fairChoices_fair.cas, fairChoices_fair.clock, w_frames, w_args, w_heap, w_applies, trivial, trivial, w_case⟩
end start1
theorem witness_1 : WitnessClaimed_1 := ⟨start1.p0, start1.e0, start1.about1, start1.theMethod, start1.args0, start1.below0, start1.atStart⟩
end Jvm.Pilot.@@N@@
