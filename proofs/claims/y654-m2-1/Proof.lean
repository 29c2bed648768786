import JvmDerived
import JvmDerived.Pilot.@@N@@Statement
import JvmDerived.Pilot.@@N@@Code
set_option linter.unusedVariables false
set_option linter.unusedSimpArgs false
namespace Jvm.OwnKit
open Sem ClassFile Op Lib Jvm.Stand Jvm.Free Jvm.LawKit Jvm.RoadKit
/-! A small layer of my own over the library's laws: 'Goes': from this frame the body comes to its end; each law turned so that it reads backwards. -/
def Goes (tb : Tables) (e : Env) (below : List Frame) (Φ : Outcome → State → Prop) (T : State) (f : JFrame) : Prop :=
  ∃ s₂ o, Steps tb e below (T.setTop f) s₂ ∧ s₂.status = .running ∧ Ended s₂ below o ∧ Φ o s₂
def Fine (s : State) (n0 : Nat) (Q : Option Value → Heap → Prop) (rc rs : Nat) (o : Outcome) (U : State) : Prop :=
  ∃ v L, o = .returned v ∧ (Fr n0 L ∧ Q v U.heap) ∧ FrameEnd s o U L rc rs
def Base (p : Program) (s : State) (m : MethodId) (meth : Method) (c : Code) (Z : State) (y : MethodName) (bytes : ByteArray) (maxL : Nat) (ret : Option FieldType) : Prop :=
  p.tables.exec = Jvm.exec ∧ Z.Warmed39 s.vm ∧ c.code = bytes ∧ c.maxLocals = maxL ∧ s.vm.findClass y.cls = some m.cls ∧ meth.name = y.name ∧ meth.sig.returnType = ret ∧ meth.locks = false
def Sd (p : Program) (l : Launch) (e : Env) (R : Room) (s : State) (m : MethodId) (args : Array Value) (below : List Frame) (meth : Method) (c : Code) (T : State) (h : Heap) (n0 cells slots : Nat) : Prop :=
  ∃ locs, Stand p l e R s m args below meth c T locs cells slots ∧ T.heap = h ∧ Fr n0 locs ∧ n0 ≤ s.heap.size
def Con (l : Launch) (Z : State) (y : MethodName) (bytes : ByteArray) (maxL : Nat) (ret : Option FieldType) (rm : Room) (as' : Array Value) (h0 : Heap) (n0 : Nat) (Q : Option Value → Heap → Prop) : Prop :=
  n0 ≤ h0.size → ∀ ws : List Cond, MetFree l y (head1 (Cond.code y bytes maxL ret :: ws) rm) (fun a U => a = as' ∧ Z.Warmed39 U.vm ∧ U.heap = h0) (fun _ _ _ _ _ => True) (fun _ U o U' => ∃ v L, o = .returned v ∧ (Fr n0 L ∧ Q v U'.heap) ∧ FrameEnd U o U' L rm.cells rm.slots)
/-! a condition as 1 or 0 -/
def bi (P : Prop) [Decidable P] : Int32 := if P then 1 else 0
theorem bi_pos {P : Prop} [Decidable P] (h : P) : bi P = 1 := if_pos h
theorem bi_neg {P : Prop} [Decidable P] (h : ¬ P) : bi P = 0 := if_neg h
theorem bi_ne {P : Prop} [Decidable P] (h : P) : ¬ bi P = 0 := by rw [bi_pos h]; decide
theorem bi_congr {P P' : Prop} [Decidable P] [Decidable P'] (h : P ↔ P') : bi P = bi P' := by by_cases q : P <;> simp [bi, q, h.mp, ← h]
theorem bi_one {P : Prop} [Decidable P] : bi P = 1 ↔ P := by by_cases q : P <;> simp [bi, q]
theorem bi_zero {P : Prop} [Decidable P] : bi P = 0 ↔ ¬ P := by by_cases q : P <;> simp [bi, q]
theorem bi_inj {P P' : Prop} [Decidable P] [Decidable P'] : bi P = bi P' ↔ (P ↔ P') := by by_cases q : P <;> by_cases q' : P' <;> simp [bi, q, q']
theorem bi_or {P : Prop} [Decidable P] : bi P = 0 ∨ bi P = 1 := by by_cases q : P <;> simp [bi, q]
theorem nar_bi {P : Prop} [Decidable P] : nar .boolean (bi P) = bi P := by by_cases q : P <;> simp [bi, q, nar]
theorem fits_bi {P : Prop} [Decidable P] : fits .boolean (.int (bi P)) = true := by by_cases q : P <;> simp [bi, q] <;> decide
theorem narrow_bi {P : Prop} [Decidable P] : narrow .boolean (.int (bi P)) = .int (bi P) := by by_cases q : P <;> simp [bi, q] <;> rfl
section Lay
variable {p : Program} {l : Launch} {e : Env} {R : Room} {s : State} {m : MethodId} {args : Array Value} {below : List Frame} {meth : Method} {c : Code} {T : State} {h : Heap} {n0 cells slots : Nat} {Z : State} {a0 : Array Value} {Φ : Outcome → State → Prop} {y0 : MethodName} {bytes0 : ByteArray} {maxL0 : Nat} {ret0 : Option FieldType} {pc : Nat} {Ls : Array Slot} {st rest : List Value}
theorem Goes.go {tb : Tables} {T' : State} {f f' : JFrame} (k : ∀ t, Steps tb e below (T'.setTop f') t → Steps tb e below (T.setTop f) t) (g : Goes tb e below Φ T' f') : Goes tb e below Φ T f := by
  obtain ⟨s2, o, h1, h2⟩ := g
  exact ⟨s2, o, k _ h1, h2⟩
theorem Goes.dia {tb : Tables} {P : Prop} [Decidable P] {f : JFrame} {mk : Int32 → JFrame} (h1 : P → Goes tb e below Φ T (mk 1) → Goes tb e below Φ T f) (h0 : ¬ P → Goes tb e below Φ T (mk 0) → Goes tb e below Φ T f) (k : Goes tb e below Φ T (mk (bi P))) : Goes tb e below Φ T f := by
  by_cases q : P
  · rw [bi_pos q] at k; exact h1 q k
  · rw [bi_neg q] at k; exact h0 q k
theorem Goes.cast {tb : Tables} {f f' : JFrame} (q : f = f') (g : Goes tb e below Φ T f') : Goes tb e below Φ T f := q ▸ g
theorem Sd.here (S : Sd p l e R s m args below meth c T h n0 cells slots) : At T m c below := by obtain ⟨_, X, -⟩ := S; exact X.here
theorem Sd.le (S : Sd p l e R s m args below meth c T h n0 cells slots) : n0 ≤ h.size := by
  obtain ⟨_, X, e, -, q⟩ := S
  have h1 := X.same.2.1
  have h2 : s.heap.size ≤ T.heap.size := h1
  rw [e] at h2
  exact Nat.le_trans q h2
theorem Base.x (B : Base p s m meth c Z y0 bytes0 maxL0 ret0) : p.tables.exec = Jvm.exec := B.1
theorem Base.d (B : Base p s m meth c Z y0 bytes0 maxL0 ret0) {r : Except DecodeError (Instr × Nat)} (hd : decode bytes0 pc = r) : decode c.code pc = r := B.2.2.1 ▸ hd
theorem Con.body {y : MethodName} {bytes : ByteArray} {maxL : Nat} {ret : Option FieldType} {rm : Room} {as' : Array Value} {h0 : Heap} {Q : Option Value → Heap → Prop} (hpl : plainFor y = true)
    (k : ∀ (p : Program) (e : Env) (s : State) (m : MethodId) (below : List Frame) (meth : Method) (c : Code) (T : State), Base p s m meth c Z y bytes maxL ret → Sd p l e rm s m as' below meth c T h0 n0 0 0 → Goes p.tables e below (Fine s n0 Q rm.cells rm.slots) T (entryFrame m as' maxL)) :
    Con l Z y bytes maxL ret rm as' h0 n0 Q := by
  intro hn ws
  refine MetFree.of_bodySF hpl hisR ?_
  intro p e s m args below meth c s₁ Bd hml0 hP hK
  obtain ⟨rfl, hZ, hh⟩ := hP
  have e0 : s₁.heap = h0 := by rw [← hh, Bd.state]; rfl
  exact k p e s m below meth c s₁ ⟨Bd.exec, hZ, Bd.bytes, hml0, findClass_of_methodNamed Bd.named, (name_of_methodNamed Bd.named Bd.method).1, Bd.returns, Bd.notSynchronized⟩ ⟨[], Stand.of_body Bd, e0, Fr.nil n0, by rw [hh]; exact hn⟩
theorem Goes.acmp {cd : ACond} {x y : Value} {o : Int} {pc' : Nat} {same : Bool} (S : Sd p l e R s m args below meth c T h n0 cells slots) (B : Base p s m meth c Z y0 bytes0 maxL0 ret0) (h1 : x.isRef = true) (h2 : y.isRef = true) (hd : decode bytes0 pc = .ok (.if_acmp cd o, 3)) (hq : decide (x = y) = same) (ho : 0 ≤ (pc : Int) + o) (hp : pc' = if acV cd same = true then ((pc : Int) + o).toNat else pc + 3)
    (k : Goes p.tables e below Φ T (mkF m pc' Ls rest)) : Goes p.tables e below Φ T (mkF m pc Ls (y :: x :: rest)) := by
  obtain ⟨locs, X, eT, N, hn⟩ := S
  exact Goes.go (fun t => RoadKit.acmp X B.1 (g := mkF m pc Ls (y :: x :: rest)) rfl h1 h2 (pc0 := pc) (pc' := pc') (same := same) rfl (B.d hd) rfl hq ho hp) k
theorem Goes.pop2L {z : Int64} (S : Sd p l e R s m args below meth c T h n0 cells slots) (B : Base p s m meth c Z y0 bytes0 maxL0 ret0) (hd : decode bytes0 pc = .ok (.pop2, 1)) (k : Goes p.tables e below Φ T (mkF m (pc + 1) Ls rest)) : Goes p.tables e below Φ T (mkF m pc Ls (.long z :: rest)) := by
  obtain ⟨locs, X, eT, N, hn⟩ := S
  refine Goes.go (fun t kk => ?_) k
  have hx := B.1
  have hd' := B.d hd
  show Steps p.tables e below (T.setTop { method := m, pc := pc, locals := Ls, stack := _ :: rest, locked := none }) _
  jvm_step X.here [X.here.top, hx, hd', Value.category]
  exact kk
theorem Goes.irem {x y : Int32} (S : Sd p l e R s m args below meth c T h n0 cells slots) (B : Base p s m meth c Z y0 bytes0 maxL0 ret0) (hd : decode bytes0 pc = .ok (.irem, 1)) (hy : y ≠ 0) (k : Goes p.tables e below Φ T (mkF m (pc + 1) Ls (.int (x % y) :: rest))) : Goes p.tables e below Φ T (mkF m pc Ls (.int y :: .int x :: rest)) := by
  obtain ⟨locs, X, eT, N, hn⟩ := S
  exact Goes.go (fun t => RoadKit.iremM X B.1 (g := mkF m pc Ls (.int y :: .int x :: rest)) rfl (B.d hd) rfl hy) k
theorem Goes.lrem {x y : Int64} (S : Sd p l e R s m args below meth c T h n0 cells slots) (B : Base p s m meth c Z y0 bytes0 maxL0 ret0) (hd : decode bytes0 pc = .ok (.lrem, 1)) (hy : y ≠ 0) (k : Goes p.tables e below Φ T (mkF m (pc + 1) Ls (.long (x % y) :: rest))) : Goes p.tables e below Φ T (mkF m pc Ls (.long y :: .long x :: rest)) := by
  obtain ⟨locs, X, eT, N, hn⟩ := S
  refine Goes.go (fun t kk => XS.lrem X.here B.1 (g := mkF m pc Ls (.long y :: .long x :: rest)) rfl (B.d hd) rfl hy ?_) k
  rw [lrem_mod]
  exact kk
/-! the ends -/
section Ends
variable {Q : Option Value → Heap → Prop} {rc rs : Nat}
theorem Goes.retV (S : Sd p l e R s m args below meth c T h n0 cells slots) (B : Base p s m meth c Z y0 bytes0 maxL0 none) (hd : decode bytes0 pc = .ok (.return_, 1)) (hc : cells ≤ rc) (hs : slots ≤ rs) (hq : Q none h) :
    Goes p.tables e below (Fine s n0 Q rc rs) T (mkF m pc Ls []) := by
  obtain ⟨locs, X, eT, N, -⟩ := S
  obtain ⟨fs, hr, hrun, hended, hW, hsame⟩ := X.leave (v := none) (fun _ => rfl) B.2.2.2.2.2.2.2
  subst eT
  exact ⟨_, _, X.returnOut B.1 B.2.2.2.2.2.2.1 (B.d hd) hr, hrun, hended, _, _, rfl, ⟨N, hq⟩, ⟨_, rfl⟩, hW, hsame.mono hc hs⟩
theorem Goes.retN {t : FieldType} {z : Int32} (S : Sd p l e R s m args below meth c T h n0 cells slots) (B : Base p s m meth c Z y0 bytes0 maxL0 (some t)) (ht : t = .boolean ∨ t = .byte ∨ t = .char ∨ t = .short) (hd : decode bytes0 pc = .ok (.ireturn, 1)) (hc : cells ≤ rc) (hs : slots ≤ rs) (hq : Q (some (.int (nar t z))) h) :
    Goes p.tables e below (Fine s n0 Q rc rs) T (mkF m pc Ls (.int z :: rest)) := by
  obtain ⟨locs, X, eT, N, -⟩ := S
  obtain ⟨fs, hr, hrun, hended, hW, hsame⟩ := X.leave (v := some (.int (nar t z))) (fun h => by rw [B.2.2.2.2.2.2.1] at h; cases h) B.2.2.2.2.2.2.2
  subst eT
  exact ⟨_, _, RoadKit.retN X B.1 B.2.2.2.2.2.2.1 ht (B.d hd) hr, hrun, hended, _, _, rfl, ⟨N, hq⟩, ⟨_, rfl⟩, hW, hsame.mono hc hs⟩
theorem Goes.retI {z : Int32} (S : Sd p l e R s m args below meth c T h n0 cells slots) (B : Base p s m meth c Z y0 bytes0 maxL0 (some .int)) (hd : decode bytes0 pc = .ok (.ireturn, 1)) (hc : cells ≤ rc) (hs : slots ≤ rs) (hq : Q (some (.int z)) h) :
    Goes p.tables e below (Fine s n0 Q rc rs) T (mkF m pc Ls (.int z :: rest)) := by
  obtain ⟨locs, X, eT, N, -⟩ := S
  obtain ⟨fs, hr, hrun, hended, hW, hsame⟩ := X.leave (v := some (.int z)) (fun h => by rw [B.2.2.2.2.2.2.1] at h; cases h) B.2.2.2.2.2.2.2
  subst eT
  refine ⟨_, _, ?_, hrun, hended, _, _, rfl, ⟨N, hq⟩, ⟨_, rfl⟩, hW, hsame.mono hc hs⟩
  have hm' : T.vm.method? m = some meth := X.method'
  have hn : narrow .int (.int z) = .int z := rfl
  have hx := B.1
  have hret := B.2.2.2.2.2.2.1
  have hd' := B.d hd
  show Steps p.tables e below (T.setTop { method := m, pc := pc, locals := Ls, stack := _ :: rest, locked := none }) _
  jvm_step X.here [X.here.top, hx, hd', hm', hret, hn]
  first | (intro acts; rw [hr _ acts rfl rfl rfl]) | rw [hr _ _ rfl rfl rfl]
  exact Steps.refl _
theorem Goes.retL {z : Int64} (S : Sd p l e R s m args below meth c T h n0 cells slots) (B : Base p s m meth c Z y0 bytes0 maxL0 (some .long)) (hd : decode bytes0 pc = .ok (.lreturn, 1)) (hc : cells ≤ rc) (hs : slots ≤ rs) (hq : Q (some (.long z)) h) :
    Goes p.tables e below (Fine s n0 Q rc rs) T (mkF m pc Ls (.long z :: rest)) := by
  obtain ⟨locs, X, eT, N, -⟩ := S
  obtain ⟨fs, hr, hrun, hended, hW, hsame⟩ := X.leave (v := some (.long z)) (fun h => by rw [B.2.2.2.2.2.2.1] at h; cases h) B.2.2.2.2.2.2.2
  subst eT
  refine ⟨_, _, ?_, hrun, hended, _, _, rfl, ⟨N, hq⟩, ⟨_, rfl⟩, hW, hsame.mono hc hs⟩
  have hm' : T.vm.method? m = some meth := X.method'
  have hx := B.1
  have hret := B.2.2.2.2.2.2.1
  have hd' := B.d hd
  show Steps p.tables e below (T.setTop { method := m, pc := pc, locals := Ls, stack := _ :: rest, locked := none }) _
  jvm_step X.here [X.here.top, hx, hd', hm', hret, narrow]
  first | (intro acts; rw [hr _ acts rfl rfl rfl]) | rw [hr _ _ rfl rfl rfl]
  exact Steps.refl _
theorem Goes.retA {b : Addr} {t : FieldType} (S : Sd p l e R s m args below meth c T h n0 cells slots) (B : Base p s m meth c Z y0 bytes0 maxL0 (some t)) (ht : t.isReference = true) (hd : decode bytes0 pc = .ok (.areturn, 1)) (hc : cells ≤ rc) (hs : slots ≤ rs) (hq : Q (some (.ref b)) h) :
    Goes p.tables e below (Fine s n0 Q rc rs) T (mkF m pc Ls (.ref b :: rest)) := by
  obtain ⟨locs, X, eT, N, -⟩ := S
  obtain ⟨fs, hr, hrun, hended, hW, hsame⟩ := X.leave (v := some (.ref b)) (fun h => by rw [B.2.2.2.2.2.2.1] at h; cases h) B.2.2.2.2.2.2.2
  subst eT
  refine ⟨_, _, ?_, hrun, hended, _, _, rfl, ⟨N, hq⟩, ⟨_, rfl⟩, hW, hsame.mono hc hs⟩
  have hm' : T.vm.method? m = some meth := X.method'
  have hx := B.1
  have hret := B.2.2.2.2.2.2.1
  have hd' := B.d hd
  show Steps p.tables e below (T.setTop { method := m, pc := pc, locals := Ls, stack := _ :: rest, locked := none }) _
  jvm_step X.here [X.here.top, hx, hd', hm', hret, Value.isRef, ht]
  first | (intro acts; rw [hr _ acts rfl rfl rfl]) | rw [hr _ _ rfl rfl rfl]
  exact Steps.refl _
end Ends
/-! fields and objects -/
theorem Goes.getF {O n d : String} {index : Nat} {a : Addr} {v : Value} (S : Sd p l e R s m args below meth c T h n0 cells slots) (B : Base p s m meth c Z y0 bytes0 maxL0 ret0) (w : (Cond.fieldLink y0.cls index O n d).before a0 Z = true) (F : Fld Z h a O n d v) (hd : decode bytes0 pc = .ok (.getfield index, 3))
    (k : ∀ T', Sd p l e R s m args below meth c T' h n0 cells slots → Goes p.tables e below Φ T' (mkF m (pc + 3) Ls (v :: rest))) : Goes p.tables e below Φ T (mkF m pc Ls (.ref a :: rest)) := by
  obtain ⟨locs, X, eT, N, hn⟩ := S
  obtain ⟨T', X', e', stp⟩ := RoadKit.getF X B.1 B.2.1 B.2.2.2.2.1 (host := "") (Or.inl w) Via.refl eT F (g := mkF m pc Ls (.ref a :: rest)) rfl rfl (B.d hd)
  exact Goes.go stp (k T' ⟨locs, X', e', N, hn⟩)
theorem Goes.putF {O n d C : String} {index kk : Nat} {ty : FieldType} {a : Addr} {v v' old : Value} (S : Sd p l e R s m args below meth c T h n0 cells slots) (B : Base p s m meth c Z y0 bytes0 maxL0 ret0) (w : (Cond.fieldLink y0.cls index O n d).before a0 Z = true) (F : Fld Z h a O n d old) (E : Exa Z h a C)
    (L : (Cond.lays C O n d).before a0 Z = true ∨ ((Cond.laysFinal C O n d).before a0 Z = true ∧ y0.cls = O ∧ y0.name = "<init>")) (wi : (Cond.instantiable C kk).before a0 Z = true) (hty : parseFieldDescriptor d = some ty) (hnr : narrow ty v = v') (hf : fits ty v' = true) (ga : n0 ≤ a) (hd : decode bytes0 pc = .ok (.putfield index, 3))
    (k : ∀ T' h', Sd p l e R s m args below meth c T' h' n0 cells slots → Wr h h' a (RoadKit.slotOf Z O n d) v' → Goes p.tables e below Φ T' (mkF m (pc + 3) Ls rest)) : Goes p.tables e below Φ T (mkF m pc Ls (v :: .ref a :: rest)) := by
  obtain ⟨locs, X, eT, N, hn⟩ := S
  obtain ⟨T', h', X', e', W, stp⟩ := RoadKit.putFN X B.1 B.2.1 B.2.2.2.2.1 w Via.refl eT F E (L.imp id fun q => ⟨q.1, q.2.1, B.2.2.2.2.2.1.trans q.2.2⟩) wi hty hnr hf (g := mkF m pc Ls (v :: .ref a :: rest)) rfl rfl (B.d hd)
  exact Goes.go stp (k T' h' ⟨_, X', e', Fr.snoc X' N ga, hn⟩ W)
theorem Goes.newO {C : String} {index nn : Nat} (S : Sd p l e R s m args below meth c T h n0 cells slots) (B : Base p s m meth c Z y0 bytes0 maxL0 ret0) (w : (Cond.classLink y0.cls index C).before a0 Z = true) (wi : (Cond.instantiable C nn).before a0 Z = true) (wz : (Cond.initialized C).before a0 Z = true) (hd : decode bytes0 pc = .ok (.new index, 3)) (hc : cells + 1 ≤ R.cells) (hl : slots + nn ≤ R.slots)
    (k : ∀ T' h' b, Sd p l e R s m args below meth c T' h' n0 (cells + 1) (slots + nn) → Ext h h' → b = h.size → n0 ≤ b → Exa Z h' b C → (∀ {O nm d : String} {ty : FieldType}, Laid Z a0 C O nm d → parseFieldDescriptor d = some ty → Fld Z h' b O nm d (defaultValue ty)) → Goes p.tables e below Φ T' (mkF m (pc + 3) Ls (.ref b :: st))) :
    Goes p.tables e below Φ T (mkF m pc Ls st) := by
  have hle := S.le
  obtain ⟨locs, X, eT, N, hn⟩ := S
  obtain ⟨T', h', X', e', E, A, D, -, stp⟩ := RoadKit.newO X B.1 B.2.1 B.2.2.2.2.1 w wi wz eT (g := mkF m pc Ls st) rfl (B.d hd) hc hl
  exact Goes.go stp (k T' h' h.size ⟨locs, X', e', N, hn⟩ E rfl hle A D)
theorem Goes.initO {index : Nat} {a : Addr} {W : Nat} (S : Sd p l e R s m args below meth c T h n0 cells slots) (B : Base p s m meth c Z y0 bytes0 maxL0 ret0) (w1 : (Cond.methodLink y0.cls index Lib.objectInit).before a0 Z = true) (w2 : (Cond.instanceMethod Lib.objectInit).before a0 Z = true) (w3 : (Cond.code Lib.objectInit ⟨#[0xb1]⟩ 1 none).before a0 Z = true)
    (hd : decode bytes0 pc = .ok (.invokespecial index, 3)) (hsz : Ls.size = maxL0) (hf : 1 ≤ R.frames) (hW : 2 * 0 + (rest.map fun v => v.category).sum ≤ W) (hl : W + 12 ≤ R.locals)
    (k : ∀ T', Sd p l e R s m args below meth c T' h n0 cells slots → Goes p.tables e below Φ T' (mkF m (pc + 3) Ls rest)) : Goes p.tables e below Φ T (mkF m pc Ls (.ref a :: rest)) := by
  obtain ⟨locs, X, eT, N, hn⟩ := S
  obtain ⟨T', X', e', stp⟩ := RoadKit.initO X B.1 B.2.1 B.2.2.2.2.1 w1 w2 w3 eT (g := mkF m pc Ls (.ref a :: rest)) rfl (by rw [B.2.2.2.1]; exact hsz) rfl (B.d hd) hf hW hl
  exact Goes.go stp (k T' ⟨locs, X', e', N, hn⟩)
theorem Goes.ldcI {index : Nat} {v : Int32} (S : Sd p l e R s m args below meth c T h n0 cells slots) (B : Base p s m meth c Z y0 bytes0 maxL0 ret0) (w : (Cond.constant y0.cls index v).before a0 Z = true) (hd : decode bytes0 pc = .ok (.ldc index, 2)) (k : Goes p.tables e below Φ T (mkF m (pc + 2) Ls (.int v :: st))) : Goes p.tables e below Φ T (mkF m pc Ls st) := by
  obtain ⟨locs, X, eT, N, hn⟩ := S
  exact Goes.go (X.ldcInt B.1 B.2.2.2.2.1 (mvT B.2.1 w) (g := mkF m pc Ls st) rfl (B.d hd)) k
theorem Goes.ldcL {index : Nat} {v : Int64} (S : Sd p l e R s m args below meth c T h n0 cells slots) (B : Base p s m meth c Z y0 bytes0 maxL0 ret0) (w : (Cond.constantLong y0.cls index v).before a0 Z = true) (hd : decode bytes0 pc = .ok (.ldc2_w index, 3)) (k : Goes p.tables e below Φ T (mkF m (pc + 3) Ls (.long v :: st))) : Goes p.tables e below Φ T (mkF m pc Ls st) := by
  obtain ⟨locs, X, eT, N, hn⟩ := S
  exact Goes.go (X.ldc2Long B.1 B.2.2.2.2.1 (mvT B.2.1 w) (g := mkF m pc Ls st) rfl (B.d hd)) k
/-! calls -/
section Calls
variable {y : MethodName} {bytes : ByteArray} {maxL : Nat} {ret : Option FieldType} {rm : Room} {index W : Nat} {argsL : List Value} {Q : Option Value → Heap → Prop}
theorem Con.back {as' : Array Value} {len : Nat} (C : Con l Z y bytes maxL ret rm as' h n0 Q) (hn : n0 ≤ h.size) (hZ : Z.Warmed39 s.vm) (wc : (Cond.code y bytes maxL ret).before a0 Z = true) (wz : (Cond.initialized y.cls).before a0 Z = true) (hf : rm.frames + 1 ≤ R.frames) (hl : W + (maxL + 11) + rm.locals ≤ R.locals) :
    Back l R p e below s args y len W (fun A a => a = as' ∧ A.U.heap = h ∧ A.cells + rm.cells ≤ R.cells ∧ A.slots + rm.slots ≤ R.slots)
      (fun A _ v B => ∃ L, (Fr n0 L ∧ Q v B.U.heap) ∧ B.locs = A.locs ++ L ∧ B.cells = A.cells + rm.cells ∧ B.slots = A.slots + rm.slots) :=
  backOf (Q := fun v h L => Fr n0 L ∧ Q v h) (C hn []) hZ wc wz hf hl
theorem Goes.callS (S : Sd p l e R s m args below meth c T h n0 cells slots) (B : Base p s m meth c Z y0 bytes0 maxL0 ret0) (C : Con l Z y bytes maxL ret rm argsL.toArray h n0 Q) (wl : (Cond.methodLink y0.cls index y).before a0 Z = true) (ws : (Cond.static y).before a0 Z = true) (wi : (Cond.initialized y.cls).before a0 Z = true) (wc : (Cond.code y bytes maxL ret).before a0 Z = true)
    (hy : y.cls ≠ "java/lang/invoke/MethodHandle" ∧ y.cls ≠ "java/lang/invoke/VarHandle") (hf : rm.frames + 1 ≤ R.frames) (hlo : W + (maxL + 11) + rm.locals ≤ R.locals) (hc : cells + rm.cells ≤ R.cells) (hs : slots + rm.slots ≤ R.slots) (hsz : Ls.size = maxL0)
    (hlen : ∀ sig, parseMethodDescriptor y.desc = some sig → argsL.length = sig.parameters.length) (hst : st = argsL.reverse ++ rest) (hW : 2 * 0 + (rest.map fun v => v.category).sum ≤ W) (hd : decode bytes0 pc = .ok (.invokestatic index, 3))
    (k : ∀ v T' h', Sd p l e R s m args below meth c T' h' n0 (cells + rm.cells) (slots + rm.slots) → Q v h' → Goes p.tables e below Φ T' (mkF m (pc + 3) Ls (v.toList ++ rest))) : Goes p.tables e below Φ T (mkF m pc Ls st) := by
  have hle := S.le
  obtain ⟨locs, X, eT, N, hn⟩ := S
  subst hst
  obtain ⟨v, _, ⟨T', L', k', n'⟩, -, X', ⟨Lc, ⟨hN, hQ⟩, l1, y1, z1⟩, stp⟩ := Jvm.LawKit.callS X B.1 (y := y) B.2.2.2.2.1 (mvT B.2.1 wl) (mvT B.2.1 ws) (mvT B.2.1 wi) (mvT B.2.1 wc) hy (Con.back (W := W) C hle B.2.1 wc wi hf hlo) (g := mkF m pc Ls (argsL.reverse ++ rest)) rfl (by rw [B.2.2.2.1]; exact hsz) (argsL := argsL) (rest := rest) hlen rfl hW (B.d hd) (fun _ _ => ⟨rfl, eT, hc, hs⟩)
  dsimp only [Pt.U, Pt.locs, Pt.cells, Pt.slots] at X' l1 y1 z1 stp hQ
  subst l1 y1 z1
  exact Goes.go stp (k v T' T'.heap ⟨_, X', rfl, N.app hN, hn⟩ hQ)
theorem Goes.callI {b : Addr} (S : Sd p l e R s m args below meth c T h n0 cells slots) (B : Base p s m meth c Z y0 bytes0 maxL0 ret0) (C : Con l Z y bytes maxL none rm (.ref b :: argsL).toArray h n0 Q) (wl : (Cond.methodLink y0.cls index y).before a0 Z = true) (wim : (Cond.instanceMethod y).before a0 Z = true) (wi : (Cond.initialized y.cls).before a0 Z = true) (wc : (Cond.code y bytes maxL none).before a0 Z = true)
    (hy : y.cls ≠ "java/lang/invoke/MethodHandle" ∧ y.cls ≠ "java/lang/invoke/VarHandle") (hni : y.name = "<init>") (hf : rm.frames + 1 ≤ R.frames) (hlo : W + (maxL + 11) + rm.locals ≤ R.locals) (hc : cells + rm.cells ≤ R.cells) (hs : slots + rm.slots ≤ R.slots) (hsz : Ls.size = maxL0)
    (hlen : ∀ sig, parseMethodDescriptor y.desc = some sig → argsL.length = sig.parameters.length) (hst : st = argsL.reverse ++ .ref b :: rest) (hW : 2 * 0 + (rest.map fun v => v.category).sum ≤ W) (hd : decode bytes0 pc = .ok (.invokespecial index, 3))
    (k : ∀ v T' h', Sd p l e R s m args below meth c T' h' n0 (cells + rm.cells) (slots + rm.slots) → Q v h' → Goes p.tables e below Φ T' (mkF m (pc + 3) Ls (v.toList ++ rest))) : Goes p.tables e below Φ T (mkF m pc Ls st) := by
  have hle := S.le
  obtain ⟨locs, X, eT, N, hn⟩ := S
  subst hst
  obtain ⟨v, _, ⟨T', L', k', n'⟩, -, X', ⟨Lc, ⟨hN, hQ⟩, l1, y1, z1⟩, stp⟩ := X.specialBack B.1 (y := y) hni B.2.2.2.2.1 (mvT B.2.1 wl) (mvT B.2.1 wim) (mvT B.2.1 wc) hy (Con.back (W := W) C hle B.2.1 wc wi hf hlo) (g := mkF m pc Ls (argsL.reverse ++ .ref b :: rest)) rfl (by rw [B.2.2.2.1]; exact hsz) (Steps.refl _) (a := b) (argsL := argsL) (rest := rest) hlen rfl hW (B.d hd) (fun _ _ => ⟨rfl, eT, hc, hs⟩)
  dsimp only [Pt.U, Pt.locs, Pt.cells, Pt.slots] at X' l1 y1 z1 stp hQ
  subst l1 y1 z1
  exact Goes.go (fun t q => stp.trans q) (k v T' T'.heap ⟨_, X', rfl, N.app hN, hn⟩ hQ)
theorem Goes.callV {b : Addr} {K : String} (S : Sd p l e R s m args below meth c T h n0 cells slots) (B : Base p s m meth c Z y0 bytes0 maxL0 ret0) (C : Con l Z y bytes maxL ret rm (.ref b :: argsL).toArray h n0 Q) (E : Exa Z h b K) (wl : (Cond.methodLink y0.cls index y).before a0 Z = true) (wd : (Cond.declares y).before a0 Z = true) (wsel : (Cond.selects K y y).before a0 Z = true) (wim : (Cond.instanceMethod y).before a0 Z = true) (wi : (Cond.initialized y.cls).before a0 Z = true) (wc : (Cond.code y bytes maxL ret).before a0 Z = true)
    (hy : y.cls ≠ "java/lang/invoke/MethodHandle" ∧ y.cls ≠ "java/lang/invoke/VarHandle") (hf : rm.frames + 1 ≤ R.frames) (hlo : W + (maxL + 11) + rm.locals ≤ R.locals) (hc : cells + rm.cells ≤ R.cells) (hs : slots + rm.slots ≤ R.slots) (hsz : Ls.size = maxL0)
    (hlen : ∀ sig, parseMethodDescriptor y.desc = some sig → argsL.length = sig.parameters.length) (hst : st = argsL.reverse ++ .ref b :: rest) (hW : 2 * 0 + (rest.map fun v => v.category).sum ≤ W) (hd : decode bytes0 pc = .ok (.invokevirtual index, 3))
    (k : ∀ v T' h', Sd p l e R s m args below meth c T' h' n0 (cells + rm.cells) (slots + rm.slots) → Q v h' → Goes p.tables e below Φ T' (mkF m (pc + 3) Ls (v.toList ++ rest))) : Goes p.tables e below Φ T (mkF m pc Ls st) := by
  have hle := S.le
  obtain ⟨locs, X, eT, N, hn⟩ := S
  subst hst
  obtain ⟨cq, kq, qa, qb, qc⟩ := isOf B.2.1 eT E
  obtain ⟨v, _, ⟨T', L', k', n'⟩, -, X', ⟨Lc, ⟨hN, hQ⟩, l1, y1, z1⟩, stp⟩ := X.virtualBack B.1 (y := y) (z := y) B.2.2.2.2.1 (mvT B.2.1 wl) (mvT B.2.1 wd) (notFace_of_selects (args := #[]) (mvT B.2.1 wsel)) (mvT B.2.1 wsel) (mvT B.2.1 wim) hy (Con.back (W := W) C hle B.2.1 wc wi hf hlo) qa qc (g := mkF m pc Ls (argsL.reverse ++ .ref b :: rest)) rfl (by rw [B.2.2.2.1]; exact hsz) (Steps.refl _) (argsL := argsL) (rest := rest) hlen rfl hW (B.d hd) (fun _ _ => ⟨rfl, eT, hc, hs⟩)
  dsimp only [Pt.U, Pt.locs, Pt.cells, Pt.slots] at X' l1 y1 z1 stp hQ
  subst l1 y1 z1
  exact Goes.go (fun t q => stp.trans q) (k v T' T'.heap ⟨_, X', rfl, N.app hN, hn⟩ hQ)
theorem Goes.callP {b : Addr} {K : String} (S : Sd p l e R s m args below meth c T h n0 cells slots) (B : Base p s m meth c Z y0 bytes0 maxL0 ret0) (C : Con l Z y bytes maxL ret rm (.ref b :: argsL).toArray h n0 Q) (E : Exa Z h b K) (wl : (Cond.methodLink y0.cls index y).before a0 Z = true) (wp : (Cond.privateMethod y).before a0 Z = true) {kk : Nat} (wk : (Cond.instantiable y.cls kk).before a0 Z = true) (wim : (Cond.instanceMethod y).before a0 Z = true) (wi : (Cond.initialized y.cls).before a0 Z = true) (wc : (Cond.code y bytes maxL ret).before a0 Z = true)
    (hy : y.cls ≠ "java/lang/invoke/MethodHandle" ∧ y.cls ≠ "java/lang/invoke/VarHandle") (hf : rm.frames + 1 ≤ R.frames) (hlo : W + (maxL + 11) + rm.locals ≤ R.locals) (hc : cells + rm.cells ≤ R.cells) (hs : slots + rm.slots ≤ R.slots) (hsz : Ls.size = maxL0)
    (hlen : ∀ sig, parseMethodDescriptor y.desc = some sig → argsL.length = sig.parameters.length) (hst : st = argsL.reverse ++ .ref b :: rest) (hW : 2 * 0 + (rest.map fun v => v.category).sum ≤ W) (hd : decode bytes0 pc = .ok (.invokevirtual index, 3))
    (k : ∀ v T' h', Sd p l e R s m args below meth c T' h' n0 (cells + rm.cells) (slots + rm.slots) → Q v h' → Goes p.tables e below Φ T' (mkF m (pc + 3) Ls (v.toList ++ rest))) : Goes p.tables e below Φ T (mkF m pc Ls st) := by
  have hle := S.le
  obtain ⟨locs, X, eT, N, hn⟩ := S
  subst hst
  obtain ⟨cq, q1, q2⟩ := E.cell
  have hpr : s.PrivateAt y := Cond.privateMethod_at (mvP B.2.1 wp (args := #[]))
  have wsel : (Cond.selects y.cls y y).before args s = true := by
    obtain ⟨ci, ki, i1, i2, i3, i4, -⟩ := Cond.instantiable_spec (mvT B.2.1 wk (args := args))
    exact selects_self_of_private i1 i2 (Bool.or_eq_false_iff.mp i4).1 hpr (mvT B.2.1 wim) hy
  obtain ⟨v, _, ⟨T', L', k', n'⟩, -, X', ⟨Lc, ⟨hN, hQ⟩, l1, y1, z1⟩, stp⟩ := X.privateBack B.1 (y := y) B.2.2.2.2.1 (mvT B.2.1 wl) (mvT B.2.1 wim) wsel hpr (mvT B.2.1 wc) hy (Con.back (W := W) C hle B.2.1 wc wi hf hlo) (g := mkF m pc Ls (argsL.reverse ++ .ref b :: rest)) rfl (by rw [B.2.2.2.1]; exact hsz) (Steps.refl _) (a := b) (by rw [eT]; exact q1) q2 (argsL := argsL) (rest := rest) hlen rfl hW (B.d hd) (fun _ _ => ⟨rfl, eT, hc, hs⟩)
  dsimp only [Pt.U, Pt.locs, Pt.cells, Pt.slots] at X' l1 y1 z1 stp hQ
  subst l1 y1 z1
  exact Goes.go (fun t q => stp.trans q) (k v T' T'.heap ⟨_, X', rfl, N.app hN, hn⟩ hQ)
end Calls
/-! arrays: what lies at each place, as a function -/
def Ary (Z : State) (h : Heap) (a : Addr) (ty : FieldType) (n : Nat) (f : Nat → Value) : Prop := ∃ c : Cell, Arr Z h a c ty ∧ c.slots.size = n ∧ n < 2 ^ 31 ∧ ∀ i, i < n → c.slots[i]? = some (f i)
def aup {α : Type} (f : Nat → α) (i : Nat) (v : α) : Nat → α := fun k => if k = i then v else f k
theorem aup_int (g : Nat → Int32) (k : Nat) (x : Int32) : aup (fun i => Value.int (g i)) k (.int x) = fun i => .int (aup g k x i) := by
  funext i
  simp only [aup]
  split <;> rfl
theorem aup_long (g : Nat → Int64) (k : Nat) (x : Int64) : aup (fun i => Value.long (g i)) k (.long x) = fun i => .long (aup g k x i) := by
  funext i
  simp only [aup]
  split <;> rfl
section Arrays
variable {a b : Addr} {ty : FieldType} {n : Nat} {f : Nat → Value} {h' : Heap} {j : Int32} {v : Value} {sl : Nat} {ws : List Addr}
theorem Ary.lt (A : Ary Z h a ty n f) : a < h.size := by obtain ⟨c, A, -⟩ := A; exact A.lt
theorem Ary.ext (A : Ary Z h a ty n f) (E : Ext h h') : Ary Z h' a ty n f := by obtain ⟨c, A, r⟩ := A; exact ⟨c, A.ext E, r⟩
theorem Ary.other (A : Ary Z h b ty n f) (W : Wr h h' a sl v) (q : b ≠ a) : Ary Z h' b ty n f := by obtain ⟨c, A, r⟩ := A; exact ⟨c, A.other W q, r⟩
theorem Ary.keep (A : Ary Z h a ty n f) (K : Keep h h' ws) (q : a ∉ ws) : Ary Z h' a ty n f := by obtain ⟨c, A, r⟩ := A; exact ⟨c, ⟨K.2.1 a c A.1 q, A.2⟩, r⟩
theorem Ary.cast {g : Nat → Value} (A : Ary Z h a ty n f) (q : ∀ i, i < n → f i = g i) : Ary Z h a ty n g := by obtain ⟨c, A, r1, r2, r3⟩ := A; exact ⟨c, A, r1, r2, fun i hi => by rw [r3 i hi, q i hi]⟩
theorem Ary.new {z : Int32} {k : ClassId} (A : Arr Z h a (newA k ty z) ty) (q : ¬ z < 0) : Ary Z h a ty z.toNatClampNeg (fun _ => defaultValue ty) :=
  ⟨_, A, sz_new _ _ _, (back32 q).2, fun i hi => by simp [newA, hi]⟩
theorem Ary.set {i : Nat} (A : Ary Z h a ty n f) (W : Wr h h' a i v) (hi : i < n) : Ary Z h' a ty n (aup f i v) := by
  obtain ⟨c, A, r1, r2, r3⟩ := A
  refine ⟨_, A.same W, by rw [sz_set]; exact r1, r2, fun k hk => ?_⟩
  by_cases e : k = i
  · subst e
    simp [aup, Cell.setSlot, r1, hi]
  · have e' : i ≠ k := fun q => e q.symm
    simp only [aup, if_neg e, Cell.setSlot]
    rw [Array.getElem?_setIfInBounds_ne e']
    exact r3 k hk
theorem Goes.newP {aty : ArrayType} {z : Int32} {cap : Nat} (S : Sd p l e R s m args below meth c T h n0 cells slots) (B : Base p s m meth c Z y0 bytes0 maxL0 ret0) (w : (Cond.arrayClass (newarray.typeOf aty)).before a0 Z = true) (hd : decode bytes0 pc = .ok (.newarray aty, 2)) (hz : ¬ z < 0) (hcap : z.toNatClampNeg ≤ cap) (hb : cap * 8 ≤ 536870912) (hc : cells + 1 ≤ R.cells) (hl : slots + cap ≤ R.slots)
    (k : ∀ T' h' b, Sd p l e R s m args below meth c T' h' n0 (cells + 1) (slots + cap) → Ext h h' → b = h.size → n0 ≤ b → Ary Z h' b (newarray.typeOf aty) z.toNatClampNeg (fun _ => defaultValue (newarray.typeOf aty)) → Goes p.tables e below Φ T' (mkF m (pc + 2) Ls (.ref b :: rest))) :
    Goes p.tables e below Φ T (mkF m pc Ls (.int z :: rest)) := by
  have hle := S.le
  obtain ⟨locs, X, eT, N, hn⟩ := S
  obtain ⟨T', h', k', X', e', E, A, stp⟩ := RoadKit.newP X B.1 B.2.1 w eT (g := mkF m pc Ls (.int z :: rest)) rfl (B.d hd) rfl hz hcap hb hc hl
  exact Goes.go stp (k T' h' h.size ⟨locs, X', e', N, hn⟩ E rfl hle (Ary.new A hz))
theorem Goes.iaload (S : Sd p l e R s m args below meth c T h n0 cells slots) (B : Base p s m meth c Z y0 bytes0 maxL0 ret0) (A : Ary Z h a .int n f) (q0 : ¬ j < 0) (q1 : j.toNatClampNeg < n) (hd : decode bytes0 pc = .ok (.iaload, 1)) (hv : f j.toNatClampNeg = v) (k : Goes p.tables e below Φ T (mkF m (pc + 1) Ls (v :: rest))) : Goes p.tables e below Φ T (mkF m pc Ls (.int j :: .ref a :: rest)) := by
  obtain ⟨locs, X, eT, N, hn⟩ := S
  obtain ⟨cl, A, r1, r2, r3⟩ := A
  exact Goes.go (X.iaload B.1 (j := j) (v := v) (by rw [eT]; exact A.1) (State.isArrayOf_alike B.2.1.alike A.2.1) A.2.2 (by rw [r1]; exact fun z => z.elim q0 (Nat.not_le.mpr q1)) (by rw [r3 _ q1, hv]) (g := mkF m pc Ls (.int j :: .ref a :: rest)) rfl rfl (B.d hd)) k
theorem Goes.laload (S : Sd p l e R s m args below meth c T h n0 cells slots) (B : Base p s m meth c Z y0 bytes0 maxL0 ret0) (A : Ary Z h a .long n f) (q0 : ¬ j < 0) (q1 : j.toNatClampNeg < n) (hd : decode bytes0 pc = .ok (.laload, 1)) (hv : f j.toNatClampNeg = v) (k : Goes p.tables e below Φ T (mkF m (pc + 1) Ls (v :: rest))) : Goes p.tables e below Φ T (mkF m pc Ls (.int j :: .ref a :: rest)) := by
  obtain ⟨locs, X, eT, N, hn⟩ := S
  obtain ⟨cl, A, r1, r2, r3⟩ := A
  exact Goes.go (X.laload B.1 (j := j) (v := v) (by rw [eT]; exact A.1) (State.isArrayOf_alike B.2.1.alike A.2.1) A.2.2 (by rw [r1]; exact fun z => z.elim q0 (Nat.not_le.mpr q1)) (by rw [r3 _ q1, hv]) (g := mkF m pc Ls (.int j :: .ref a :: rest)) rfl rfl (B.d hd)) k
theorem Goes.baload (S : Sd p l e R s m args below meth c T h n0 cells slots) (B : Base p s m meth c Z y0 bytes0 maxL0 ret0) (A : Ary Z h a .byte n f) (q0 : ¬ j < 0) (q1 : j.toNatClampNeg < n) (hd : decode bytes0 pc = .ok (.baload, 1)) (hv : f j.toNatClampNeg = v) (k : Goes p.tables e below Φ T (mkF m (pc + 1) Ls (v :: rest))) : Goes p.tables e below Φ T (mkF m pc Ls (.int j :: .ref a :: rest)) := by
  obtain ⟨locs, X, eT, N, hn⟩ := S
  obtain ⟨cl, A, r1, r2, r3⟩ := A
  exact Goes.go (X.baloadBytes B.1 (j := j) (v := v) (by rw [eT]; exact A.1) (State.isArrayOf_alike B.2.1.alike A.2.1) A.2.2 (by rw [r1]; exact fun z => z.elim q0 (Nat.not_le.mpr q1)) (by rw [r3 _ q1, hv]) (g := mkF m pc Ls (.int j :: .ref a :: rest)) rfl rfl (B.d hd)) k
theorem Goes.zaload (S : Sd p l e R s m args below meth c T h n0 cells slots) (B : Base p s m meth c Z y0 bytes0 maxL0 ret0) (A : Ary Z h a .boolean n f) (q0 : ¬ j < 0) (q1 : j.toNatClampNeg < n) (hd : decode bytes0 pc = .ok (.baload, 1)) (hv : f j.toNatClampNeg = v) (k : Goes p.tables e below Φ T (mkF m (pc + 1) Ls (v :: rest))) : Goes p.tables e below Φ T (mkF m pc Ls (.int j :: .ref a :: rest)) := by
  obtain ⟨locs, X, eT, N, hn⟩ := S
  obtain ⟨cl, A, r1, r2, r3⟩ := A
  exact Goes.go (X.baloadBooleans B.1 (j := j) (v := v) (by rw [eT]; exact A.1) (State.isArrayOf_alike B.2.1.alike A.2.1) A.2.2 (by rw [r1]; exact fun z => z.elim q0 (Nat.not_le.mpr q1)) (by rw [r3 _ q1, hv]) (g := mkF m pc Ls (.int j :: .ref a :: rest)) rfl rfl (B.d hd)) k
theorem Goes.alen (S : Sd p l e R s m args below meth c T h n0 cells slots) (B : Base p s m meth c Z y0 bytes0 maxL0 ret0) (A : Ary Z h a ty n f) {z : Int32} (hz : n.toInt32 = z) (hd : decode bytes0 pc = .ok (.arraylength, 1)) (k : Goes p.tables e below Φ T (mkF m (pc + 1) Ls (.int z :: rest))) : Goes p.tables e below Φ T (mkF m pc Ls (.ref a :: rest)) := by
  obtain ⟨locs, X, eT, N, hn⟩ := S
  obtain ⟨cl, A, r1, r2, r3⟩ := A
  subst r1 hz
  exact Goes.go (X.arraylength B.1 (by rw [eT]; exact A.1) (State.isArrayOf_alike B.2.1.alike A.2.1) (g := mkF m pc Ls (.ref a :: rest)) rfl rfl (B.d hd)) k
theorem Goes.iastore {x : Int32} (S : Sd p l e R s m args below meth c T h n0 cells slots) (B : Base p s m meth c Z y0 bytes0 maxL0 ret0) (A : Ary Z h a .int n f) (q0 : ¬ j < 0) (q1 : j.toNatClampNeg < n) (ga : n0 ≤ a) (hd : decode bytes0 pc = .ok (.iastore, 1))
    (k : ∀ T' h', Sd p l e R s m args below meth c T' h' n0 cells slots → Wr h h' a j.toNatClampNeg (.int x) → Ary Z h' a .int n (aup f j.toNatClampNeg (.int x)) → Goes p.tables e below Φ T' (mkF m (pc + 1) Ls rest)) : Goes p.tables e below Φ T (mkF m pc Ls (.int x :: .int j :: .ref a :: rest)) := by
  obtain ⟨locs, X, eT, N, hn⟩ := S
  have A' := A
  obtain ⟨cl, A, r1, r2, r3⟩ := A
  obtain ⟨T', h', X', e', W, stp⟩ := RoadKit.stI X B.1 B.2.1 eT A (j := j) (by rw [r1]; exact fun z => z.elim q0 (Nat.not_le.mpr q1)) (g := mkF m pc Ls (.int x :: .int j :: .ref a :: rest)) rfl rfl (B.d hd)
  exact Goes.go stp (k T' h' ⟨_, X', e', Fr.snoc X' N ga, hn⟩ W (A'.set W q1))
theorem Goes.lastore {x : Int64} (S : Sd p l e R s m args below meth c T h n0 cells slots) (B : Base p s m meth c Z y0 bytes0 maxL0 ret0) (A : Ary Z h a .long n f) (q0 : ¬ j < 0) (q1 : j.toNatClampNeg < n) (ga : n0 ≤ a) (hd : decode bytes0 pc = .ok (.lastore, 1))
    (k : ∀ T' h', Sd p l e R s m args below meth c T' h' n0 cells slots → Wr h h' a j.toNatClampNeg (.long x) → Ary Z h' a .long n (aup f j.toNatClampNeg (.long x)) → Goes p.tables e below Φ T' (mkF m (pc + 1) Ls rest)) : Goes p.tables e below Φ T (mkF m pc Ls (.long x :: .int j :: .ref a :: rest)) := by
  obtain ⟨locs, X, eT, N, hn⟩ := S
  have A' := A
  obtain ⟨cl, A, r1, r2, r3⟩ := A
  obtain ⟨T', h', X', e', W, stp⟩ := RoadKit.stJ X B.1 B.2.1 eT A (j := j) (by rw [r1]; exact fun z => z.elim q0 (Nat.not_le.mpr q1)) (g := mkF m pc Ls (.long x :: .int j :: .ref a :: rest)) rfl rfl (B.d hd)
  exact Goes.go stp (k T' h' ⟨_, X', e', Fr.snoc X' N ga, hn⟩ W (A'.set W q1))
theorem Goes.bastore {x : Int32} (S : Sd p l e R s m args below meth c T h n0 cells slots) (B : Base p s m meth c Z y0 bytes0 maxL0 ret0) (A : Ary Z h a .byte n f) (q0 : ¬ j < 0) (q1 : j.toNatClampNeg < n) (ga : n0 ≤ a) (hd : decode bytes0 pc = .ok (.bastore, 1))
    (k : ∀ T' h', Sd p l e R s m args below meth c T' h' n0 cells slots → Wr h h' a j.toNatClampNeg (.int (nar .byte x)) → Ary Z h' a .byte n (aup f j.toNatClampNeg (.int (nar .byte x))) → Goes p.tables e below Φ T' (mkF m (pc + 1) Ls rest)) : Goes p.tables e below Φ T (mkF m pc Ls (.int x :: .int j :: .ref a :: rest)) := by
  obtain ⟨locs, X, eT, N, hn⟩ := S
  have A' := A
  obtain ⟨cl, A, r1, r2, r3⟩ := A
  obtain ⟨T', h', X', e', W, stp⟩ := RoadKit.stB X B.1 B.2.1 eT A (j := j) (by rw [r1]; exact fun z => z.elim q0 (Nat.not_le.mpr q1)) (g := mkF m pc Ls (.int x :: .int j :: .ref a :: rest)) rfl rfl (B.d hd)
  exact Goes.go stp (k T' h' ⟨_, X', e', Fr.snoc X' N ga, hn⟩ W (A'.set W q1))
theorem Goes.zastore {x : Int32} (S : Sd p l e R s m args below meth c T h n0 cells slots) (B : Base p s m meth c Z y0 bytes0 maxL0 ret0) (A : Ary Z h a .boolean n f) (q0 : ¬ j < 0) (q1 : j.toNatClampNeg < n) (ga : n0 ≤ a) (hd : decode bytes0 pc = .ok (.bastore, 1))
    (k : ∀ T' h', Sd p l e R s m args below meth c T' h' n0 cells slots → Wr h h' a j.toNatClampNeg (.int (nar .boolean x)) → Ary Z h' a .boolean n (aup f j.toNatClampNeg (.int (nar .boolean x))) → Goes p.tables e below Φ T' (mkF m (pc + 1) Ls rest)) : Goes p.tables e below Φ T (mkF m pc Ls (.int x :: .int j :: .ref a :: rest)) := by
  obtain ⟨locs, X, eT, N, hn⟩ := S
  have A' := A
  obtain ⟨cl, A, r1, r2, r3⟩ := A
  obtain ⟨T', h', X', e', W, stp⟩ := RoadKit.stZ X B.1 B.2.1 eT A (j := j) (by rw [r1]; exact fun z => z.elim q0 (Nat.not_le.mpr q1)) (g := mkF m pc Ls (.int x :: .int j :: .ref a :: rest)) rfl rfl (B.d hd)
  exact Goes.go stp (k T' h' ⟨_, X', e', Fr.snoc X' N ga, hn⟩ W (A'.set W q1))
end Arrays
end Lay
end Jvm.OwnKit
namespace Jvm.Pilot.@@N@@
open Jvm Jvm.ClassFile Sem Op Lib Jvm.Free Jvm.Stand Jvm.LawKit Jvm.RoadKit Jvm.OwnKit Bundle Jvm.Pilot.@@N@@.Jvm.D
theorem w0 {Z : State} {a0 : Array Value} (hw : ∀ d ∈ tables_1, d.before a0 Z = true) : ((Jvm.Cond.arrayClass Jvm.ClassFile.FieldType.int) : Jvm.Cond).before a0 Z = true := hw _ (List.mem_of_getElem? (i := 0) rfl)
theorem w1 {Z : State} {a0 : Array Value} (hw : ∀ d ∈ tables_1, d.before a0 Z = true) : ((Jvm.Cond.classLink "com/example/holdfast/holdfast/IndexStackAddPinLaw" (7 : Nat) "com/example/holdfast/holdfast/IndexStack") : Jvm.Cond).before a0 Z = true := hw _ (List.mem_of_getElem? (i := 1) rfl)
theorem w2 {Z : State} {a0 : Array Value} (hw : ∀ d ∈ tables_1, d.before a0 Z = true) : ((Jvm.Cond.instantiable "com/example/holdfast/holdfast/IndexStack" (3 : Nat)) : Jvm.Cond).before a0 Z = true := hw _ (List.mem_of_getElem? (i := 2) rfl)
theorem w3 {Z : State} {a0 : Array Value} (hw : ∀ d ∈ tables_1, d.before a0 Z = true) : ((Jvm.Cond.initialized "com/example/holdfast/holdfast/IndexStack") : Jvm.Cond).before a0 Z = true := hw _ (List.mem_of_getElem? (i := 3) rfl)
theorem w4 {Z : State} {a0 : Array Value} (hw : ∀ d ∈ tables_1, d.before a0 Z = true) : ((Jvm.Cond.methodLink "com/example/holdfast/holdfast/IndexStackAddPinLaw" (9 : Nat) ({ cls := "com/example/holdfast/holdfast/IndexStack", name := "<init>", desc := "(I)V" } : Jvm.MethodName)) : Jvm.Cond).before a0 Z = true := hw _ (List.mem_of_getElem? (i := 4) rfl)
theorem w5 {Z : State} {a0 : Array Value} (hw : ∀ d ∈ tables_1, d.before a0 Z = true) : ((Jvm.Cond.instanceMethod ({ cls := "com/example/holdfast/holdfast/IndexStack", name := "<init>", desc := "(I)V" } : Jvm.MethodName)) : Jvm.Cond).before a0 Z = true := hw _ (List.mem_of_getElem? (i := 5) rfl)
theorem w6 {Z : State} {a0 : Array Value} (hw : ∀ d ∈ tables_1, d.before a0 Z = true) : ((Jvm.Cond.code ({ cls := "com/example/holdfast/holdfast/IndexStack", name := "<init>", desc := "(I)V" } : Jvm.MethodName) prog_7_method_1_code (2 : Nat) (Option.none : Option Jvm.ClassFile.FieldType)) : Jvm.Cond).before a0 Z = true := hw _ (List.mem_of_getElem? (i := 6) rfl)
theorem w7 {Z : State} {a0 : Array Value} (hw : ∀ d ∈ tables_1, d.before a0 Z = true) : ((Jvm.Cond.methodLink "com/example/holdfast/holdfast/IndexStack" (1 : Nat) ({ cls := "java/lang/Object", name := "<init>", desc := "()V" } : Jvm.MethodName)) : Jvm.Cond).before a0 Z = true := hw _ (List.mem_of_getElem? (i := 7) rfl)
theorem w8 {Z : State} {a0 : Array Value} (hw : ∀ d ∈ tables_1, d.before a0 Z = true) : ((Jvm.Cond.instanceMethod ({ cls := "java/lang/Object", name := "<init>", desc := "()V" } : Jvm.MethodName)) : Jvm.Cond).before a0 Z = true := hw _ (List.mem_of_getElem? (i := 8) rfl)
theorem w9 {Z : State} {a0 : Array Value} (hw : ∀ d ∈ tables_1, d.before a0 Z = true) : ((Jvm.Cond.code ({ cls := "java/lang/Object", name := "<init>", desc := "()V" } : Jvm.MethodName) object_method_1_code (1 : Nat) (Option.none : Option Jvm.ClassFile.FieldType)) : Jvm.Cond).before a0 Z = true := hw _ (List.mem_of_getElem? (i := 9) rfl)
theorem w10 {Z : State} {a0 : Array Value} (hw : ∀ d ∈ tables_1, d.before a0 Z = true) : ((Jvm.Cond.fieldLink "com/example/holdfast/holdfast/IndexStack" (7 : Nat) "com/example/holdfast/holdfast/IndexStack" "items" "[I") : Jvm.Cond).before a0 Z = true := hw _ (List.mem_of_getElem? (i := 10) rfl)
theorem w11 {Z : State} {a0 : Array Value} (hw : ∀ d ∈ tables_1, d.before a0 Z = true) : ((Jvm.Cond.laysFinal "com/example/holdfast/holdfast/IndexStack" "com/example/holdfast/holdfast/IndexStack" "items" "[I") : Jvm.Cond).before a0 Z = true := hw _ (List.mem_of_getElem? (i := 11) rfl)
theorem w12 {Z : State} {a0 : Array Value} (hw : ∀ d ∈ tables_1, d.before a0 Z = true) : ((Jvm.Cond.arrayClass Jvm.ClassFile.FieldType.boolean) : Jvm.Cond).before a0 Z = true := hw _ (List.mem_of_getElem? (i := 12) rfl)
theorem w13 {Z : State} {a0 : Array Value} (hw : ∀ d ∈ tables_1, d.before a0 Z = true) : ((Jvm.Cond.fieldLink "com/example/holdfast/holdfast/IndexStack" (13 : Nat) "com/example/holdfast/holdfast/IndexStack" "held" "[Z") : Jvm.Cond).before a0 Z = true := hw _ (List.mem_of_getElem? (i := 13) rfl)
theorem w14 {Z : State} {a0 : Array Value} (hw : ∀ d ∈ tables_1, d.before a0 Z = true) : ((Jvm.Cond.laysFinal "com/example/holdfast/holdfast/IndexStack" "com/example/holdfast/holdfast/IndexStack" "held" "[Z") : Jvm.Cond).before a0 Z = true := hw _ (List.mem_of_getElem? (i := 14) rfl)
theorem w15 {Z : State} {a0 : Array Value} (hw : ∀ d ∈ tables_1, d.before a0 Z = true) : ((Jvm.Cond.methodLink "com/example/holdfast/holdfast/IndexStackAddPinLaw" (12 : Nat) ({ cls := "com/example/holdfast/holdfast/IndexStack", name := "add", desc := "(I)V" } : Jvm.MethodName)) : Jvm.Cond).before a0 Z = true := hw _ (List.mem_of_getElem? (i := 15) rfl)
theorem w16 {Z : State} {a0 : Array Value} (hw : ∀ d ∈ tables_1, d.before a0 Z = true) : ((Jvm.Cond.declares ({ cls := "com/example/holdfast/holdfast/IndexStack", name := "add", desc := "(I)V" } : Jvm.MethodName)) : Jvm.Cond).before a0 Z = true := hw _ (List.mem_of_getElem? (i := 16) rfl)
theorem w17 {Z : State} {a0 : Array Value} (hw : ∀ d ∈ tables_1, d.before a0 Z = true) : ((Jvm.Cond.instanceMethod ({ cls := "com/example/holdfast/holdfast/IndexStack", name := "add", desc := "(I)V" } : Jvm.MethodName)) : Jvm.Cond).before a0 Z = true := hw _ (List.mem_of_getElem? (i := 17) rfl)
theorem w18 {Z : State} {a0 : Array Value} (hw : ∀ d ∈ tables_1, d.before a0 Z = true) : ((Jvm.Cond.selects "com/example/holdfast/holdfast/IndexStack" ({ cls := "com/example/holdfast/holdfast/IndexStack", name := "add", desc := "(I)V" } : Jvm.MethodName) ({ cls := "com/example/holdfast/holdfast/IndexStack", name := "add", desc := "(I)V" } : Jvm.MethodName)) : Jvm.Cond).before a0 Z = true := hw _ (List.mem_of_getElem? (i := 18) rfl)
theorem w19 {Z : State} {a0 : Array Value} (hw : ∀ d ∈ tables_1, d.before a0 Z = true) : ((Jvm.Cond.code ({ cls := "com/example/holdfast/holdfast/IndexStack", name := "add", desc := "(I)V" } : Jvm.MethodName) prog_7_method_2_code (2 : Nat) (Option.none : Option Jvm.ClassFile.FieldType)) : Jvm.Cond).before a0 Z = true := hw _ (List.mem_of_getElem? (i := 19) rfl)
theorem w20 {Z : State} {a0 : Array Value} (hw : ∀ d ∈ tables_1, d.before a0 Z = true) : ((Jvm.Cond.fieldLink "com/example/holdfast/holdfast/IndexStack" (17 : Nat) "com/example/holdfast/holdfast/IndexStack" "count" "I") : Jvm.Cond).before a0 Z = true := hw _ (List.mem_of_getElem? (i := 20) rfl)
theorem w21 {Z : State} {a0 : Array Value} (hw : ∀ d ∈ tables_1, d.before a0 Z = true) : ((Jvm.Cond.lays "com/example/holdfast/holdfast/IndexStack" "com/example/holdfast/holdfast/IndexStack" "count" "I") : Jvm.Cond).before a0 Z = true := hw _ (List.mem_of_getElem? (i := 21) rfl)
theorem w22 {Z : State} {a0 : Array Value} (hw : ∀ d ∈ tables_1, d.before a0 Z = true) : ((Jvm.Cond.methodLink "com/example/holdfast/holdfast/IndexStackAddPinLaw" (15 : Nat) ({ cls := "com/example/holdfast/holdfast/IndexStackAddPinLaw", name := "push", desc := "([III)I" } : Jvm.MethodName)) : Jvm.Cond).before a0 Z = true := hw _ (List.mem_of_getElem? (i := 22) rfl)
theorem w23 {Z : State} {a0 : Array Value} (hw : ∀ d ∈ tables_1, d.before a0 Z = true) : ((Jvm.Cond.static ({ cls := "com/example/holdfast/holdfast/IndexStackAddPinLaw", name := "push", desc := "([III)I" } : Jvm.MethodName)) : Jvm.Cond).before a0 Z = true := hw _ (List.mem_of_getElem? (i := 23) rfl)
theorem w24 {Z : State} {a0 : Array Value} (hw : ∀ d ∈ tables_1, d.before a0 Z = true) : ((Jvm.Cond.initialized "com/example/holdfast/holdfast/IndexStackAddPinLaw") : Jvm.Cond).before a0 Z = true := hw _ (List.mem_of_getElem? (i := 24) rfl)
theorem w25 {Z : State} {a0 : Array Value} (hw : ∀ d ∈ tables_1, d.before a0 Z = true) : ((Jvm.Cond.code ({ cls := "com/example/holdfast/holdfast/IndexStackAddPinLaw", name := "push", desc := "([III)I" } : Jvm.MethodName) method_2_code (3 : Nat) (Option.some Jvm.ClassFile.FieldType.int)) : Jvm.Cond).before a0 Z = true := hw _ (List.mem_of_getElem? (i := 25) rfl)
theorem w26 {Z : State} {a0 : Array Value} (hw : ∀ d ∈ tables_1, d.before a0 Z = true) : ((Jvm.Cond.methodLink "com/example/holdfast/holdfast/IndexStackAddPinLaw" (21 : Nat) ({ cls := "com/example/holdfast/holdfast/IndexStack", name := "size", desc := "()I" } : Jvm.MethodName)) : Jvm.Cond).before a0 Z = true := hw _ (List.mem_of_getElem? (i := 26) rfl)
theorem w27 {Z : State} {a0 : Array Value} (hw : ∀ d ∈ tables_1, d.before a0 Z = true) : ((Jvm.Cond.declares ({ cls := "com/example/holdfast/holdfast/IndexStack", name := "size", desc := "()I" } : Jvm.MethodName)) : Jvm.Cond).before a0 Z = true := hw _ (List.mem_of_getElem? (i := 27) rfl)
theorem w28 {Z : State} {a0 : Array Value} (hw : ∀ d ∈ tables_1, d.before a0 Z = true) : ((Jvm.Cond.instanceMethod ({ cls := "com/example/holdfast/holdfast/IndexStack", name := "size", desc := "()I" } : Jvm.MethodName)) : Jvm.Cond).before a0 Z = true := hw _ (List.mem_of_getElem? (i := 28) rfl)
theorem w29 {Z : State} {a0 : Array Value} (hw : ∀ d ∈ tables_1, d.before a0 Z = true) : ((Jvm.Cond.selects "com/example/holdfast/holdfast/IndexStack" ({ cls := "com/example/holdfast/holdfast/IndexStack", name := "size", desc := "()I" } : Jvm.MethodName) ({ cls := "com/example/holdfast/holdfast/IndexStack", name := "size", desc := "()I" } : Jvm.MethodName)) : Jvm.Cond).before a0 Z = true := hw _ (List.mem_of_getElem? (i := 29) rfl)
theorem w30 {Z : State} {a0 : Array Value} (hw : ∀ d ∈ tables_1, d.before a0 Z = true) : ((Jvm.Cond.code ({ cls := "com/example/holdfast/holdfast/IndexStack", name := "size", desc := "()I" } : Jvm.MethodName) prog_7_method_5_code (1 : Nat) (Option.some Jvm.ClassFile.FieldType.int)) : Jvm.Cond).before a0 Z = true := hw _ (List.mem_of_getElem? (i := 30) rfl)
theorem w31 {Z : State} {a0 : Array Value} (hw : ∀ d ∈ tables_1, d.before a0 Z = true) : ((Jvm.Cond.methodLink "com/example/holdfast/holdfast/IndexStackAddPinLaw" (25 : Nat) ({ cls := "com/example/holdfast/holdfast/IndexStack", name := "get", desc := "(I)I" } : Jvm.MethodName)) : Jvm.Cond).before a0 Z = true := hw _ (List.mem_of_getElem? (i := 31) rfl)
theorem w32 {Z : State} {a0 : Array Value} (hw : ∀ d ∈ tables_1, d.before a0 Z = true) : ((Jvm.Cond.declares ({ cls := "com/example/holdfast/holdfast/IndexStack", name := "get", desc := "(I)I" } : Jvm.MethodName)) : Jvm.Cond).before a0 Z = true := hw _ (List.mem_of_getElem? (i := 32) rfl)
theorem w33 {Z : State} {a0 : Array Value} (hw : ∀ d ∈ tables_1, d.before a0 Z = true) : ((Jvm.Cond.instanceMethod ({ cls := "com/example/holdfast/holdfast/IndexStack", name := "get", desc := "(I)I" } : Jvm.MethodName)) : Jvm.Cond).before a0 Z = true := hw _ (List.mem_of_getElem? (i := 33) rfl)
theorem w34 {Z : State} {a0 : Array Value} (hw : ∀ d ∈ tables_1, d.before a0 Z = true) : ((Jvm.Cond.selects "com/example/holdfast/holdfast/IndexStack" ({ cls := "com/example/holdfast/holdfast/IndexStack", name := "get", desc := "(I)I" } : Jvm.MethodName) ({ cls := "com/example/holdfast/holdfast/IndexStack", name := "get", desc := "(I)I" } : Jvm.MethodName)) : Jvm.Cond).before a0 Z = true := hw _ (List.mem_of_getElem? (i := 34) rfl)
theorem w35 {Z : State} {a0 : Array Value} (hw : ∀ d ∈ tables_1, d.before a0 Z = true) : ((Jvm.Cond.code ({ cls := "com/example/holdfast/holdfast/IndexStack", name := "get", desc := "(I)I" } : Jvm.MethodName) prog_7_method_6_code (2 : Nat) (Option.some Jvm.ClassFile.FieldType.int)) : Jvm.Cond).before a0 Z = true := hw _ (List.mem_of_getElem? (i := 35) rfl)
theorem d_prog_7_method_1_0 : decode prog_7_method_1_code 0 = .ok (.aload_n 0, 1) := by decide +kernel
theorem d_prog_7_method_1_1 : decode prog_7_method_1_code 1 = .ok (.invokespecial 1, 3) := by decide +kernel
theorem d_prog_7_method_1_4 : decode prog_7_method_1_code 4 = .ok (.aload_n 0, 1) := by decide +kernel
theorem d_prog_7_method_1_5 : decode prog_7_method_1_code 5 = .ok (.iload_n 1, 1) := by decide +kernel
theorem d_prog_7_method_1_6 : decode prog_7_method_1_code 6 = .ok (.newarray .int, 2) := by decide +kernel
theorem d_prog_7_method_1_8 : decode prog_7_method_1_code 8 = .ok (.putfield 7, 3) := by decide +kernel
theorem d_prog_7_method_1_11 : decode prog_7_method_1_code 11 = .ok (.aload_n 0, 1) := by decide +kernel
theorem d_prog_7_method_1_12 : decode prog_7_method_1_code 12 = .ok (.iload_n 1, 1) := by decide +kernel
theorem d_prog_7_method_1_13 : decode prog_7_method_1_code 13 = .ok (.newarray .boolean, 2) := by decide +kernel
theorem d_prog_7_method_1_15 : decode prog_7_method_1_code 15 = .ok (.putfield 13, 3) := by decide +kernel
theorem d_prog_7_method_1_18 : decode prog_7_method_1_code 18 = .ok (.return_, 1) := by decide +kernel
theorem d_prog_7_method_2_0 : decode prog_7_method_2_code 0 = .ok (.aload_n 0, 1) := by decide +kernel
theorem d_prog_7_method_2_1 : decode prog_7_method_2_code 1 = .ok (.getfield 13, 3) := by decide +kernel
theorem d_prog_7_method_2_4 : decode prog_7_method_2_code 4 = .ok (.iload_n 1, 1) := by decide +kernel
theorem d_prog_7_method_2_5 : decode prog_7_method_2_code 5 = .ok (.baload, 1) := by decide +kernel
theorem d_prog_7_method_2_6 : decode prog_7_method_2_code 6 = .ok (.ifCond .ne 27, 3) := by decide +kernel
theorem d_prog_7_method_2_9 : decode prog_7_method_2_code 9 = .ok (.aload_n 0, 1) := by decide +kernel
theorem d_prog_7_method_2_10 : decode prog_7_method_2_code 10 = .ok (.getfield 13, 3) := by decide +kernel
theorem d_prog_7_method_2_13 : decode prog_7_method_2_code 13 = .ok (.iload_n 1, 1) := by decide +kernel
theorem d_prog_7_method_2_14 : decode prog_7_method_2_code 14 = .ok (.iconst 1, 1) := by decide +kernel
theorem d_prog_7_method_2_15 : decode prog_7_method_2_code 15 = .ok (.bastore, 1) := by decide +kernel
theorem d_prog_7_method_2_16 : decode prog_7_method_2_code 16 = .ok (.aload_n 0, 1) := by decide +kernel
theorem d_prog_7_method_2_17 : decode prog_7_method_2_code 17 = .ok (.getfield 7, 3) := by decide +kernel
theorem d_prog_7_method_2_20 : decode prog_7_method_2_code 20 = .ok (.aload_n 0, 1) := by decide +kernel
theorem d_prog_7_method_2_21 : decode prog_7_method_2_code 21 = .ok (.dup, 1) := by decide +kernel
theorem d_prog_7_method_2_22 : decode prog_7_method_2_code 22 = .ok (.getfield 17, 3) := by decide +kernel
theorem d_prog_7_method_2_25 : decode prog_7_method_2_code 25 = .ok (.dup_x1, 1) := by decide +kernel
theorem d_prog_7_method_2_26 : decode prog_7_method_2_code 26 = .ok (.iconst 1, 1) := by decide +kernel
theorem d_prog_7_method_2_27 : decode prog_7_method_2_code 27 = .ok (.iadd, 1) := by decide +kernel
theorem d_prog_7_method_2_28 : decode prog_7_method_2_code 28 = .ok (.putfield 17, 3) := by decide +kernel
theorem d_prog_7_method_2_31 : decode prog_7_method_2_code 31 = .ok (.iload_n 1, 1) := by decide +kernel
theorem d_prog_7_method_2_32 : decode prog_7_method_2_code 32 = .ok (.iastore, 1) := by decide +kernel
theorem d_prog_7_method_2_33 : decode prog_7_method_2_code 33 = .ok (.return_, 1) := by decide +kernel
theorem d_prog_7_method_5_0 : decode prog_7_method_5_code 0 = .ok (.aload_n 0, 1) := by decide +kernel
theorem d_prog_7_method_5_1 : decode prog_7_method_5_code 1 = .ok (.getfield 17, 3) := by decide +kernel
theorem d_prog_7_method_5_4 : decode prog_7_method_5_code 4 = .ok (.ireturn, 1) := by decide +kernel
theorem d_prog_7_method_6_0 : decode prog_7_method_6_code 0 = .ok (.aload_n 0, 1) := by decide +kernel
theorem d_prog_7_method_6_1 : decode prog_7_method_6_code 1 = .ok (.getfield 7, 3) := by decide +kernel
theorem d_prog_7_method_6_4 : decode prog_7_method_6_code 4 = .ok (.iload_n 1, 1) := by decide +kernel
theorem d_prog_7_method_6_5 : decode prog_7_method_6_code 5 = .ok (.iaload, 1) := by decide +kernel
theorem d_prog_7_method_6_6 : decode prog_7_method_6_code 6 = .ok (.ireturn, 1) := by decide +kernel
theorem d_method_2_0 : decode method_2_code 0 = .ok (.iload_n 1, 1) := by decide +kernel
theorem d_method_2_1 : decode method_2_code 1 = .ok (.ifCond .le 12, 3) := by decide +kernel
theorem d_method_2_4 : decode method_2_code 4 = .ok (.aload_n 0, 1) := by decide +kernel
theorem d_method_2_5 : decode method_2_code 5 = .ok (.iconst 0, 1) := by decide +kernel
theorem d_method_2_6 : decode method_2_code 6 = .ok (.iaload, 1) := by decide +kernel
theorem d_method_2_7 : decode method_2_code 7 = .ok (.iload_n 2, 1) := by decide +kernel
theorem d_method_2_8 : decode method_2_code 8 = .ok (.if_icmp .ne 5, 3) := by decide +kernel
theorem d_method_2_11 : decode method_2_code 11 = .ok (.iload_n 1, 1) := by decide +kernel
theorem d_method_2_12 : decode method_2_code 12 = .ok (.ireturn, 1) := by decide +kernel
theorem d_method_2_13 : decode method_2_code 13 = .ok (.iload_n 1, 1) := by decide +kernel
theorem d_method_2_14 : decode method_2_code 14 = .ok (.iconst 1, 1) := by decide +kernel
theorem d_method_2_15 : decode method_2_code 15 = .ok (.if_icmp .le 12, 3) := by decide +kernel
theorem d_method_2_18 : decode method_2_code 18 = .ok (.aload_n 0, 1) := by decide +kernel
theorem d_method_2_19 : decode method_2_code 19 = .ok (.iconst 1, 1) := by decide +kernel
theorem d_method_2_20 : decode method_2_code 20 = .ok (.iaload, 1) := by decide +kernel
theorem d_method_2_21 : decode method_2_code 21 = .ok (.iload_n 2, 1) := by decide +kernel
theorem d_method_2_22 : decode method_2_code 22 = .ok (.if_icmp .ne 5, 3) := by decide +kernel
theorem d_method_2_25 : decode method_2_code 25 = .ok (.iload_n 1, 1) := by decide +kernel
theorem d_method_2_26 : decode method_2_code 26 = .ok (.ireturn, 1) := by decide +kernel
theorem d_method_2_27 : decode method_2_code 27 = .ok (.iload_n 1, 1) := by decide +kernel
theorem d_method_2_28 : decode method_2_code 28 = .ok (.iconst 2, 1) := by decide +kernel
theorem d_method_2_29 : decode method_2_code 29 = .ok (.if_icmp .le 12, 3) := by decide +kernel
theorem d_method_2_32 : decode method_2_code 32 = .ok (.aload_n 0, 1) := by decide +kernel
theorem d_method_2_33 : decode method_2_code 33 = .ok (.iconst 2, 1) := by decide +kernel
theorem d_method_2_34 : decode method_2_code 34 = .ok (.iaload, 1) := by decide +kernel
theorem d_method_2_35 : decode method_2_code 35 = .ok (.iload_n 2, 1) := by decide +kernel
theorem d_method_2_36 : decode method_2_code 36 = .ok (.if_icmp .ne 5, 3) := by decide +kernel
theorem d_method_2_39 : decode method_2_code 39 = .ok (.iload_n 1, 1) := by decide +kernel
theorem d_method_2_40 : decode method_2_code 40 = .ok (.ireturn, 1) := by decide +kernel
theorem d_method_2_41 : decode method_2_code 41 = .ok (.aload_n 0, 1) := by decide +kernel
theorem d_method_2_42 : decode method_2_code 42 = .ok (.iload_n 1, 1) := by decide +kernel
theorem d_method_2_43 : decode method_2_code 43 = .ok (.iload_n 2, 1) := by decide +kernel
theorem d_method_2_44 : decode method_2_code 44 = .ok (.iastore, 1) := by decide +kernel
theorem d_method_2_45 : decode method_2_code 45 = .ok (.iload_n 1, 1) := by decide +kernel
theorem d_method_2_46 : decode method_2_code 46 = .ok (.iconst 1, 1) := by decide +kernel
theorem d_method_2_47 : decode method_2_code 47 = .ok (.iadd, 1) := by decide +kernel
theorem d_method_2_48 : decode method_2_code 48 = .ok (.ireturn, 1) := by decide +kernel
theorem pd_0 : parseMethodDescriptor "(I)V" = some ⟨[.int], none⟩ := by decide +kernel
theorem pd_1 : parseMethodDescriptor "([III)I" = some ⟨[(.array .int), .int, .int], some .int⟩ := by decide +kernel
theorem pd_2 : parseMethodDescriptor "()I" = some ⟨[], some .int⟩ := by decide +kernel
theorem pd_3 : parseMethodDescriptor "(I)I" = some ⟨[.int], some .int⟩ := by decide +kernel
theorem pn_0 : plainName "com/example/holdfast/holdfast/IndexStack" = true := by first | (simp [plainName, overriddenIn]; done) | decide +kernel
theorem pn_1 : plainName "com/example/holdfast/holdfast/IndexStackAddPinLaw" = true := by first | (simp [plainName, overriddenIn]; done) | decide +kernel

def own_Inv (k : Nat) (c : Int32) (I f H : Nat → Int32) : Prop := (0 < k → (0 : Int32) < c) ∧ 0 ≤ c.toInt ∧ c.toInt ≤ k ∧ (∀ i : Nat, (i : Int) < c.toInt → I i = f i) ∧ ∀ x : Int32, 0 ≤ x.toInt → x.toInt < 4 → (H x.toNatClampNeg = 0 ↔ ∀ i : Nat, (i : Int) < c.toInt → f i ≠ x)
theorem own_e0 : (0 : Int32).toInt = 0 := by decide
theorem own_inv0 : own_Inv 0 (0 : Int32) (fun _ => 0) (fun _ => 0) (fun _ => 0) := by
  refine ⟨fun h => absurd h (by decide), by decide, by decide, fun i hi => rfl, fun x _ _ => ⟨fun _ i hi => ?_, fun _ => rfl⟩⟩
  rw [own_e0] at hi
  omega
theorem own_nn {x : Int32} (h : ¬ x < 0) : 0 ≤ x.toInt ∧ x.toNatClampNeg = x.toInt.toNat := by
  rw [Int32.lt_iff_toInt_lt, own_e0] at h
  exact ⟨by omega, rfl⟩
theorem own_inj {x y : Int32} (h : 0 ≤ x.toInt) (h' : 0 ≤ y.toInt) (e : x.toNatClampNeg = y.toNatClampNeg) : x = y := by
  have h1 : x.toNatClampNeg = x.toInt.toNat := rfl
  have h2 : y.toNatClampNeg = y.toInt.toNat := rfl
  exact Int32.toInt_inj.mp (by omega)
theorem own_m (p : Int32) : ¬ (p &&& (3 : Int32)) < 0 ∧ (p &&& (3 : Int32)).toNatClampNeg < 4 := by
  have h := c_mask p 3 2 (by omega) (by decide)
  have e : (p &&& (3 : Int32)).toNatClampNeg = (p &&& (3 : Int32)).toInt.toNat := rfl
  rw [e, Int32.lt_iff_toInt_lt, own_e0]
  omega
theorem own_c {k : Nat} {c : Int32} {I f H : Nat → Int32} (h : own_Inv k c I f H) (hk : k < 4 := by decide) : ¬ c < 0 ∧ c.toNatClampNeg < 4 := by
  obtain ⟨-, h1, h2, -⟩ := h
  have e : c.toNatClampNeg = c.toInt.toNat := rfl
  rw [e, Int32.lt_iff_toInt_lt, own_e0]
  omega
theorem own_at {k : Nat} {c : Int32} {I f H : Nat → Int32} (h : own_Inv k c I f H) (j : Int32) (i : Nat) (hj : j.toInt = i) (hc : j < c) : I j.toNatClampNeg = f i := by
  have e : j.toNatClampNeg = i := by show j.toInt.toNat = i; omega
  rw [e]
  rw [Int32.lt_iff_toInt_lt] at hc
  exact h.2.2.2.1 i (by omega)
theorem own_find {c x : Int32} {f : Nat → Int32} (h1 : 0 ≤ c.toInt) (h2 : c.toInt ≤ 3) : (((0 : Int32) < c ∧ f 0 = x) ∨ ((1 : Int32) < c ∧ f 1 = x) ∨ ((2 : Int32) < c ∧ f 2 = x)) ↔ ∃ i : Nat, (i : Int) < c.toInt ∧ f i = x := by
  have e1 : (1 : Int32).toInt = 1 := by decide
  have e2 : (2 : Int32).toInt = 2 := by decide
  simp only [Int32.lt_iff_toInt_lt, own_e0, e1, e2]
  constructor
  · rintro (⟨a, b⟩ | ⟨a, b⟩ | ⟨a, b⟩)
    · exact ⟨0, by omega, b⟩
    · exact ⟨1, by omega, b⟩
    · exact ⟨2, by omega, b⟩
  · rintro ⟨i, a, b⟩
    have : i = 0 ∨ i = 1 ∨ i = 2 := by omega
    rcases this with rfl | rfl | rfl
    · exact Or.inl ⟨by omega, b⟩
    · exact Or.inr (Or.inl ⟨by omega, b⟩)
    · exact Or.inr (Or.inr ⟨by omega, b⟩)
theorem own_step {k : Nat} {c x c2 r : Int32} {I f H I2 f2 H2 : Nat → Int32} (hI : own_Inv k c I f H) (hx : ¬ x < 0 ∧ x.toNatClampNeg < 4) (ha : (¬ H x.toNatClampNeg = 0 ∧ I = I2 ∧ H = H2 ∧ c = c2) ∨ (H x.toNatClampNeg = 0 ∧ I2 = aup I c.toNatClampNeg x ∧ H2 = aup H x.toNatClampNeg 1 ∧ c2 = c + (1 : Int32))) (hp : ((((0 : Int32) < c ∧ f 0 = x) ∨ ((1 : Int32) < c ∧ f 1 = x) ∨ ((2 : Int32) < c ∧ f 2 = x)) ∧ f = f2 ∧ c = r) ∨ (¬ (((0 : Int32) < c ∧ f 0 = x) ∨ ((1 : Int32) < c ∧ f 1 = x) ∨ ((2 : Int32) < c ∧ f 2 = x)) ∧ f2 = aup f c.toNatClampNeg x ∧ r = c + (1 : Int32))) (hk : k < 4 := by decide) : c2 = r ∧ own_Inv (k + 1) c2 I2 f2 H2 := by
  obtain ⟨i0, i1, i2, i3, i4⟩ := hI
  obtain ⟨x0, x1⟩ := own_nn hx.1
  have x2 := hx.2
  have hf := own_find (x := x) (f := f) i1 (by omega)
  have hH := i4 x x0 (by omega)
  rw [hf] at hp
  rcases ha with ⟨a0, rfl, rfl, rfl⟩ | ⟨a0, rfl, rfl, rfl⟩ <;> rcases hp with ⟨b0, rfl, rfl⟩ | ⟨b0, rfl, rfl⟩
  · refine ⟨rfl, fun _ => ?_, i1, by omega, i3, i4⟩
    obtain ⟨i, b1, b2⟩ := b0
    rw [Int32.lt_iff_toInt_lt, own_e0]; omega
  · exact absurd (hH.mpr fun i hi q => b0 ⟨i, hi, q⟩) a0
  · obtain ⟨i, b1, b2⟩ := b0
    exact absurd b2 (hH.mp a0 i b1)
  · have e1 : (1 : Int32).toInt = 1 := by decide
    have hc := c_iadd c 1
    have hr := rng32 (c + 1)
    have hc' : (c + 1).toInt = c.toInt + 1 := by omega
    have hcn : c.toNatClampNeg = c.toInt.toNat := rfl
    refine ⟨rfl, fun _ => ?_, by omega, by omega, fun i hi => ?_, fun y y0 y1 => ?_⟩
    · rw [Int32.lt_iff_toInt_lt, own_e0]; omega
    · simp only [aup]
      split
      · rfl
      · exact i3 i (by omega)
    · have hy := i4 y y0 y1
      have yn : y.toNatClampNeg = y.toInt.toNat := rfl
      simp only [aup]
      by_cases q : y.toNatClampNeg = x.toNatClampNeg
      · have : y = x := own_inj y0 x0 q
        subst this
        rw [if_pos rfl]
        refine iff_of_false (by decide) fun z => ?_
        exact z c.toNatClampNeg (by omega) (if_pos rfl)
      · rw [if_neg q, hy]
        constructor
        · intro z i hi
          split
          · intro q2; subst q2; exact q rfl
          · exact z i (by omega)
        · intro z i hi
          have := z i (by omega)
          rwa [if_neg (by omega)] at this

theorem ef_rmI (m : MethodId) (a0 : Addr) (p1 : Int32) : entryFrame m #[(.ref a0), (.int p1)] 2 = mkF m 0 #[.val (.ref a0), .val (.int p1)] [] := by first | (simp [entryFrame, mkF, argsToLocals, Value.category]; done) | rfl
def Q_rmI (Z : State) (a0 : Addr) (p1 : Int32) (h0 : Heap) (n0 : Nat) (v : Option Value) (h : Heap) : Prop := ∃ (gi : Addr) (gh : Addr), v = none ∧ h0.size ≤ gi ∧ h0.size ≤ gh ∧ gi ≠ gh ∧ Keep h0 h [a0] ∧ Exa Z h a0 "com/example/holdfast/holdfast/IndexStack" ∧ Fld Z h a0 "com/example/holdfast/holdfast/IndexStack" "items" "[I" (.ref gi) ∧ Fld Z h a0 "com/example/holdfast/holdfast/IndexStack" "held" "[Z" (.ref gh) ∧ Fld Z h a0 "com/example/holdfast/holdfast/IndexStack" "count" "I" (.int (0 : Int32)) ∧ Ary Z h gi .int p1.toNatClampNeg (fun i => (.int ((fun _ => 0) i))) ∧ Ary Z h gh .boolean p1.toNatClampNeg (fun i => (.int ((fun _ => 0) i)))
set_option maxRecDepth 65536 in
set_option maxHeartbeats 40000000 in
theorem rmI (l : Launch) (Z : State) (aw : Array Value) (hw : ∀ d ∈ tables_1, d.before aw Z = true) (a0 : Addr) (p1 : Int32) (h0 : Heap) (n0 : Nat) (E_a0 : Exa Z h0 a0 "com/example/holdfast/holdfast/IndexStack") (F_a0_items : Fld Z h0 a0 "com/example/holdfast/holdfast/IndexStack" "items" "[I" .null) (F_a0_held : Fld Z h0 a0 "com/example/holdfast/holdfast/IndexStack" "held" "[Z" .null) (F_a0_count : Fld Z h0 a0 "com/example/holdfast/holdfast/IndexStack" "count" "I" (.int (0 : Int32))) (g_a0 : n0 ≤ a0) (hn : ¬ p1 < 0) (hcap : p1.toNatClampNeg ≤ 4) :
    Con l Z (⟨"com/example/holdfast/holdfast/IndexStack", "<init>", "(I)V"⟩ : MethodName) prog_7_method_1_code 2 none ({ frames := 1, cells := 2, slots := 8, locals := 12 } : Room) #[(.ref a0), (.int p1)] h0 n0 (Q_rmI Z a0 p1 h0 n0) := by
  refine Con.body (plainFor_of_name pn_0) ?_
  intro pr_ en_ st_ me_ below meth co_ T B S
  refine Goes.cast (ef_rmI me_ a0 p1) ?_
  have K : Keep h0 h0 [a0] := Keep.refl _ _
  refine Goes.go (fun _ => XS.aloadN S.here B.x rfl (B.d d_prog_7_method_1_0) rfl rfl) ?_
  show Goes _ _ _ _ T (mkF me_ 1 #[.val (.ref a0), .val (.int p1)] [(.ref a0)])
  refine Goes.initO (W := 0) S B (w7 hw) (w8 hw) (w9 hw) d_prog_7_method_1_1 rfl (by decide) (Nat.le_of_eq rfl) (by decide) ?_
  intro T S
  show Goes _ _ _ _ T (mkF me_ 4 #[.val (.ref a0), .val (.int p1)] [])
  refine Goes.go (fun _ => XS.aloadN S.here B.x rfl (B.d d_prog_7_method_1_4) rfl rfl) ?_
  show Goes _ _ _ _ T (mkF me_ 5 #[.val (.ref a0), .val (.int p1)] [(.ref a0)])
  refine Goes.go (fun _ => XS.iloadN S.here B.x rfl (B.d d_prog_7_method_1_5) rfl) ?_
  show Goes _ _ _ _ T (mkF me_ 6 #[.val (.ref a0), .val (.int p1)] [(.int p1), (.ref a0)])
  refine Goes.newP (aty := .int) (cap := 4) S B (w0 hw) d_prog_7_method_1_6 hn hcap (by decide) (by decide) (by decide) ?_
  intro T h b1 S X zb g_b1 A_b1
  have ne_a0__b1 : a0 ≠ b1 := Nat.ne_of_lt (Nat.lt_of_lt_of_le E_a0.lt (Nat.le_of_eq zb.symm))
  have z_b1 : h0.size ≤ b1 := Nat.le_trans K.1 (Nat.le_of_eq zb.symm)
  replace K := K.ext X
  replace E_a0 := E_a0.ext X
  replace F_a0_items := F_a0_items.ext X
  replace F_a0_held := F_a0_held.ext X
  replace F_a0_count := F_a0_count.ext X
  replace A_b1 : Ary Z h b1 .int p1.toNatClampNeg (fun _ => (.int 0)) := A_b1
  show Goes _ _ _ _ T (mkF me_ 8 #[.val (.ref a0), .val (.int p1)] [(.ref b1), (.ref a0)])
  refine Goes.putF (v' := (.ref b1)) S B (w10 hw) F_a0_items E_a0 (Or.inr ⟨(w11 hw), rfl, rfl⟩) (w2 hw) (ty := (.array .int)) (by decide) rfl rfl g_a0 d_prog_7_method_1_8 ?_
  intro T h S W
  replace K := K.wr W (Or.inl (by simp))
  replace E_a0 := E_a0.wr W
  replace F_a0_items := F_a0_items.same W
  replace F_a0_held := F_a0_held.other W (Or.inr (slot_ne (Or.inr (w14 hw)) (Or.inr (w11 hw)) (by decide) (t := (.array .boolean)) (t' := (.array .int)) (by decide) (by decide)))
  replace F_a0_count := F_a0_count.other W (Or.inr (slot_ne (Or.inl (w21 hw)) (Or.inr (w11 hw)) (by decide) (t := .int) (t' := (.array .int)) (by decide) (by decide)))
  replace A_b1 := A_b1.other W ne_a0__b1.symm
  show Goes _ _ _ _ T (mkF me_ 11 #[.val (.ref a0), .val (.int p1)] [])
  refine Goes.go (fun _ => XS.aloadN S.here B.x rfl (B.d d_prog_7_method_1_11) rfl rfl) ?_
  show Goes _ _ _ _ T (mkF me_ 12 #[.val (.ref a0), .val (.int p1)] [(.ref a0)])
  refine Goes.go (fun _ => XS.iloadN S.here B.x rfl (B.d d_prog_7_method_1_12) rfl) ?_
  show Goes _ _ _ _ T (mkF me_ 13 #[.val (.ref a0), .val (.int p1)] [(.int p1), (.ref a0)])
  refine Goes.newP (aty := .boolean) (cap := 4) S B (w12 hw) d_prog_7_method_1_13 hn hcap (by decide) (by decide) (by decide) ?_
  intro T h b2 S X zb g_b2 A_b2
  have ne_a0__b2 : a0 ≠ b2 := Nat.ne_of_lt (Nat.lt_of_lt_of_le E_a0.lt (Nat.le_of_eq zb.symm))
  have ne_b1__b2 : b1 ≠ b2 := Nat.ne_of_lt (Nat.lt_of_lt_of_le A_b1.lt (Nat.le_of_eq zb.symm))
  have z_b2 : h0.size ≤ b2 := Nat.le_trans K.1 (Nat.le_of_eq zb.symm)
  replace K := K.ext X
  replace E_a0 := E_a0.ext X
  replace F_a0_items := F_a0_items.ext X
  replace F_a0_held := F_a0_held.ext X
  replace F_a0_count := F_a0_count.ext X
  replace A_b1 := A_b1.ext X
  replace A_b2 : Ary Z h b2 .boolean p1.toNatClampNeg (fun _ => (.int 0)) := A_b2
  show Goes _ _ _ _ T (mkF me_ 15 #[.val (.ref a0), .val (.int p1)] [(.ref b2), (.ref a0)])
  refine Goes.putF (v' := (.ref b2)) S B (w13 hw) F_a0_held E_a0 (Or.inr ⟨(w14 hw), rfl, rfl⟩) (w2 hw) (ty := (.array .boolean)) (by decide) rfl rfl g_a0 d_prog_7_method_1_15 ?_
  intro T h S W
  replace K := K.wr W (Or.inl (by simp))
  replace E_a0 := E_a0.wr W
  replace F_a0_items := F_a0_items.other W (Or.inr (slot_ne (Or.inr (w11 hw)) (Or.inr (w14 hw)) (by decide) (t := (.array .int)) (t' := (.array .boolean)) (by decide) (by decide)))
  replace F_a0_held := F_a0_held.same W
  replace F_a0_count := F_a0_count.other W (Or.inr (slot_ne (Or.inl (w21 hw)) (Or.inr (w14 hw)) (by decide) (t := .int) (t' := (.array .boolean)) (by decide) (by decide)))
  replace A_b1 := A_b1.other W ne_a0__b1.symm
  replace A_b2 := A_b2.other W ne_a0__b2.symm
  show Goes _ _ _ _ T (mkF me_ 18 #[.val (.ref a0), .val (.int p1)] [])
  refine Goes.retV S B d_prog_7_method_1_18 (by decide) (by decide) ?_
  exact ⟨b1, b2, rfl, z_b1, z_b2, ne_b1__b2, K, E_a0, F_a0_items, F_a0_held, F_a0_count, A_b1, A_b2⟩
theorem ef_rm_add (m : MethodId) (a0 : Addr) (p1 : Int32) : entryFrame m #[(.ref a0), (.int p1)] 2 = mkF m 0 #[.val (.ref a0), .val (.int p1)] [] := by first | (simp [entryFrame, mkF, argsToLocals, Value.category]; done) | rfl
def Q_rm_add (Z : State) (a0 : Addr) (p1 : Int32) (gi : Addr) (gh : Addr) (n : Nat) (I : Nat → Int32) (H : Nat → Int32) (c : Int32) (h0 : Heap) (n0 : Nat) (v : Option Value) (h : Heap) : Prop := ∃ (I2 : Nat → Int32) (H2 : Nat → Int32) (c2 : Int32), v = none ∧ Keep h0 h [a0, gi, gh] ∧ Exa Z h a0 "com/example/holdfast/holdfast/IndexStack" ∧ Fld Z h a0 "com/example/holdfast/holdfast/IndexStack" "items" "[I" (.ref gi) ∧ Fld Z h a0 "com/example/holdfast/holdfast/IndexStack" "held" "[Z" (.ref gh) ∧ Fld Z h a0 "com/example/holdfast/holdfast/IndexStack" "count" "I" (.int c2) ∧ Ary Z h gi .int n (fun i => (.int (I2 i))) ∧ Ary Z h gh .boolean n (fun i => (.int (H2 i))) ∧ ((¬ H p1.toNatClampNeg = 0 ∧ I = I2 ∧ H = H2 ∧ c = c2) ∨ (H p1.toNatClampNeg = 0 ∧ I2 = aup I c.toNatClampNeg p1 ∧ H2 = aup H p1.toNatClampNeg 1 ∧ c2 = c + (1 : Int32)))
set_option maxRecDepth 65536 in
set_option maxHeartbeats 40000000 in
theorem rm_add (l : Launch) (Z : State) (aw : Array Value) (hw : ∀ d ∈ tables_1, d.before aw Z = true) (a0 : Addr) (p1 : Int32) (gi : Addr) (gh : Addr) (n : Nat) (I : Nat → Int32) (H : Nat → Int32) (c : Int32) (h0 : Heap) (n0 : Nat) (E_a0 : Exa Z h0 a0 "com/example/holdfast/holdfast/IndexStack") (F_a0_items : Fld Z h0 a0 "com/example/holdfast/holdfast/IndexStack" "items" "[I" (.ref gi)) (F_a0_held : Fld Z h0 a0 "com/example/holdfast/holdfast/IndexStack" "held" "[Z" (.ref gh)) (F_a0_count : Fld Z h0 a0 "com/example/holdfast/holdfast/IndexStack" "count" "I" (.int c)) (A_gi : Ary Z h0 gi .int n (fun i => (.int (I i)))) (A_gh : Ary Z h0 gh .boolean n (fun i => (.int (H i)))) (g_a0 : n0 ≤ a0) (g_gi : n0 ≤ gi) (g_gh : n0 ≤ gh) (ne_a0__gi : a0 ≠ gi) (ne_a0__gh : a0 ≠ gh) (ne_gi__gh : gi ≠ gh) (hx : ¬ p1 < 0) (hx1 : p1.toNatClampNeg < n) (hc0 : ¬ c < 0) (hc1 : H p1.toNatClampNeg = 0 → c.toNatClampNeg < n) :
    Con l Z (⟨"com/example/holdfast/holdfast/IndexStack", "add", "(I)V"⟩ : MethodName) prog_7_method_2_code 2 none ({ frames := 0, cells := 0, slots := 0, locals := 0 } : Room) #[(.ref a0), (.int p1)] h0 n0 (Q_rm_add Z a0 p1 gi gh n I H c h0 n0) := by
  refine Con.body (plainFor_of_name pn_0) ?_
  intro pr_ en_ st_ me_ below meth co_ T B S
  refine Goes.cast (ef_rm_add me_ a0 p1) ?_
  have K : Keep h0 h0 [a0, gi, gh] := Keep.refl _ _
  refine Goes.go (fun _ => XS.aloadN S.here B.x rfl (B.d d_prog_7_method_2_0) rfl rfl) ?_
  show Goes _ _ _ _ T (mkF me_ 1 #[.val (.ref a0), .val (.int p1)] [(.ref a0)])
  refine Goes.getF S B (w13 hw) F_a0_held d_prog_7_method_2_1 ?_
  intro T S
  show Goes _ _ _ _ T (mkF me_ 4 #[.val (.ref a0), .val (.int p1)] [(.ref gh)])
  refine Goes.go (fun _ => XS.iloadN S.here B.x rfl (B.d d_prog_7_method_2_4) rfl) ?_
  show Goes _ _ _ _ T (mkF me_ 5 #[.val (.ref a0), .val (.int p1)] [(.int p1), (.ref gh)])
  refine Goes.zaload S B A_gh hx hx1 d_prog_7_method_2_5 (v := (.int (H p1.toNatClampNeg))) rfl ?_
  show Goes _ _ _ _ T (mkF me_ 6 #[.val (.ref a0), .val (.int p1)] [(.int (H p1.toNatClampNeg))])
  by_cases hc6 : (H p1.toNatClampNeg) = (0 : Int32)
  · skip
    refine Goes.go (fun _ => XS.ifNo S.here B.x rfl (B.d d_prog_7_method_2_6) rfl ((if0 _ _).trans (teq hc6).2)) ?_
    show Goes _ _ _ _ T (mkF me_ 9 #[.val (.ref a0), .val (.int p1)] [])
    refine Goes.go (fun _ => XS.aloadN S.here B.x rfl (B.d d_prog_7_method_2_9) rfl rfl) ?_
    show Goes _ _ _ _ T (mkF me_ 10 #[.val (.ref a0), .val (.int p1)] [(.ref a0)])
    refine Goes.getF S B (w13 hw) F_a0_held d_prog_7_method_2_10 ?_
    intro T S
    show Goes _ _ _ _ T (mkF me_ 13 #[.val (.ref a0), .val (.int p1)] [(.ref gh)])
    refine Goes.go (fun _ => XS.iloadN S.here B.x rfl (B.d d_prog_7_method_2_13) rfl) ?_
    show Goes _ _ _ _ T (mkF me_ 14 #[.val (.ref a0), .val (.int p1)] [(.int p1), (.ref gh)])
    refine Goes.go (fun _ => XS.iconst S.here B.x rfl (B.d d_prog_7_method_2_14)) ?_
    show Goes _ _ _ _ T (mkF me_ 15 #[.val (.ref a0), .val (.int p1)] [(.int (1 : Int32)), (.int p1), (.ref gh)])
    refine Goes.zastore S B A_gh hx hx1 g_gh d_prog_7_method_2_15 ?_
    intro T h S W A_gh
    replace K := K.wr W (Or.inl (by simp))
    replace E_a0 := E_a0.wr W
    replace F_a0_items := F_a0_items.other W (Or.inl ne_a0__gh)
    replace F_a0_held := F_a0_held.other W (Or.inl ne_a0__gh)
    replace F_a0_count := F_a0_count.other W (Or.inl ne_a0__gh)
    replace A_gi := A_gi.other W ne_gi__gh
    replace A_gh : Ary Z h gh .boolean n (aup (fun i => (.int (H i))) p1.toNatClampNeg (.int (1 : Int32))) := A_gh
    rw [aup_int] at A_gh
    show Goes _ _ _ _ T (mkF me_ 16 #[.val (.ref a0), .val (.int p1)] [])
    refine Goes.go (fun _ => XS.aloadN S.here B.x rfl (B.d d_prog_7_method_2_16) rfl rfl) ?_
    show Goes _ _ _ _ T (mkF me_ 17 #[.val (.ref a0), .val (.int p1)] [(.ref a0)])
    refine Goes.getF S B (w10 hw) F_a0_items d_prog_7_method_2_17 ?_
    intro T S
    show Goes _ _ _ _ T (mkF me_ 20 #[.val (.ref a0), .val (.int p1)] [(.ref gi)])
    refine Goes.go (fun _ => XS.aloadN S.here B.x rfl (B.d d_prog_7_method_2_20) rfl rfl) ?_
    show Goes _ _ _ _ T (mkF me_ 21 #[.val (.ref a0), .val (.int p1)] [(.ref a0), (.ref gi)])
    refine Goes.go (fun _ => XS.dup S.here B.x rfl (B.d d_prog_7_method_2_21) rfl rfl) ?_
    show Goes _ _ _ _ T (mkF me_ 22 #[.val (.ref a0), .val (.int p1)] [(.ref a0), (.ref a0), (.ref gi)])
    refine Goes.getF S B (w20 hw) F_a0_count d_prog_7_method_2_22 ?_
    intro T S
    show Goes _ _ _ _ T (mkF me_ 25 #[.val (.ref a0), .val (.int p1)] [(.int c), (.ref a0), (.ref gi)])
    refine Goes.go (fun _ => XS.dupX1 S.here B.x rfl (B.d d_prog_7_method_2_25) rfl rfl rfl) ?_
    show Goes _ _ _ _ T (mkF me_ 26 #[.val (.ref a0), .val (.int p1)] [(.int c), (.ref a0), (.int c), (.ref gi)])
    refine Goes.go (fun _ => XS.iconst S.here B.x rfl (B.d d_prog_7_method_2_26)) ?_
    show Goes _ _ _ _ T (mkF me_ 27 #[.val (.ref a0), .val (.int p1)] [(.int (1 : Int32)), (.int c), (.ref a0), (.int c), (.ref gi)])
    refine Goes.go (fun _ => XS.iadd S.here B.x rfl (B.d d_prog_7_method_2_27) rfl) ?_
    show Goes _ _ _ _ T (mkF me_ 28 #[.val (.ref a0), .val (.int p1)] [(.int (c + (1 : Int32))), (.ref a0), (.int c), (.ref gi)])
    refine Goes.putF (v' := (.int (c + (1 : Int32)))) S B (w20 hw) F_a0_count E_a0 (Or.inl (w21 hw)) (w2 hw) (ty := .int) (by decide) rfl rfl g_a0 d_prog_7_method_2_28 ?_
    intro T h S W
    replace K := K.wr W (Or.inl (by simp))
    replace E_a0 := E_a0.wr W
    replace F_a0_items := F_a0_items.other W (Or.inr (slot_ne (Or.inr (w11 hw)) (Or.inl (w21 hw)) (by decide) (t := (.array .int)) (t' := .int) (by decide) (by decide)))
    replace F_a0_held := F_a0_held.other W (Or.inr (slot_ne (Or.inr (w14 hw)) (Or.inl (w21 hw)) (by decide) (t := (.array .boolean)) (t' := .int) (by decide) (by decide)))
    replace F_a0_count := F_a0_count.same W
    replace A_gi := A_gi.other W ne_a0__gi.symm
    replace A_gh := A_gh.other W ne_a0__gh.symm
    show Goes _ _ _ _ T (mkF me_ 31 #[.val (.ref a0), .val (.int p1)] [(.int c), (.ref gi)])
    refine Goes.go (fun _ => XS.iloadN S.here B.x rfl (B.d d_prog_7_method_2_31) rfl) ?_
    show Goes _ _ _ _ T (mkF me_ 32 #[.val (.ref a0), .val (.int p1)] [(.int p1), (.int c), (.ref gi)])
    refine Goes.iastore S B A_gi hc0 (hc1 hc6) g_gi d_prog_7_method_2_32 ?_
    intro T h S W A_gi
    replace K := K.wr W (Or.inl (by simp))
    replace E_a0 := E_a0.wr W
    replace F_a0_items := F_a0_items.other W (Or.inl ne_a0__gi)
    replace F_a0_held := F_a0_held.other W (Or.inl ne_a0__gi)
    replace F_a0_count := F_a0_count.other W (Or.inl ne_a0__gi)
    replace A_gh := A_gh.other W ne_gi__gh.symm
    replace A_gi : Ary Z h gi .int n (aup (fun i => (.int (I i))) c.toNatClampNeg (.int p1)) := A_gi
    rw [aup_int] at A_gi
    show Goes _ _ _ _ T (mkF me_ 33 #[.val (.ref a0), .val (.int p1)] [])
    refine Goes.retV S B d_prog_7_method_2_33 (by decide) (by decide) ?_
    exact ⟨_, _, _, rfl, K, E_a0, F_a0_items, F_a0_held, F_a0_count, A_gi, A_gh, Or.inr ⟨hc6, rfl, rfl, rfl⟩⟩
  · skip
    refine Goes.go (fun _ => XS.ifYes S.here B.x rfl (pc0 := 6) (pc' := 33) rfl (B.d d_prog_7_method_2_6) rfl ((if0 _ _).trans (feq hc6).2) (by decide) (by decide)) ?_
    show Goes _ _ _ _ T (mkF me_ 33 #[.val (.ref a0), .val (.int p1)] [])
    refine Goes.retV S B d_prog_7_method_2_33 (by decide) (by decide) ?_
    exact ⟨_, _, _, rfl, K, E_a0, F_a0_items, F_a0_held, F_a0_count, A_gi, A_gh, Or.inl ⟨hc6, rfl, rfl, rfl⟩⟩
theorem ef_rm_size (m : MethodId) (a0 : Addr) : entryFrame m #[(.ref a0)] 1 = mkF m 0 #[.val (.ref a0)] [] := by first | (simp [entryFrame, mkF, argsToLocals, Value.category]; done) | rfl
def Q_rm_size (Z : State) (a0 : Addr) (c : Int32) (h0 : Heap) (n0 : Nat) (v : Option Value) (h : Heap) : Prop := v = some (.int c) ∧ h = h0
set_option maxRecDepth 65536 in
set_option maxHeartbeats 40000000 in
theorem rm_size (l : Launch) (Z : State) (aw : Array Value) (hw : ∀ d ∈ tables_1, d.before aw Z = true) (a0 : Addr) (c : Int32) (h0 : Heap) (n0 : Nat) (F_a0_count : Fld Z h0 a0 "com/example/holdfast/holdfast/IndexStack" "count" "I" (.int c)) :
    Con l Z (⟨"com/example/holdfast/holdfast/IndexStack", "size", "()I"⟩ : MethodName) prog_7_method_5_code 1 (some .int) ({ frames := 0, cells := 0, slots := 0, locals := 0 } : Room) #[(.ref a0)] h0 n0 (Q_rm_size Z a0 c h0 n0) := by
  refine Con.body (plainFor_of_name pn_0) ?_
  intro pr_ en_ st_ me_ below meth co_ T B S
  refine Goes.cast (ef_rm_size me_ a0) ?_
  refine Goes.go (fun _ => XS.aloadN S.here B.x rfl (B.d d_prog_7_method_5_0) rfl rfl) ?_
  show Goes _ _ _ _ T (mkF me_ 1 #[.val (.ref a0)] [(.ref a0)])
  refine Goes.getF S B (w20 hw) F_a0_count d_prog_7_method_5_1 ?_
  intro T S
  show Goes _ _ _ _ T (mkF me_ 4 #[.val (.ref a0)] [(.int c)])
  refine Goes.retI S B d_prog_7_method_5_4 (by decide) (by decide) ?_
  exact ⟨(by first | rfl | (rw [bi_pos (by assumption)]; rfl) | (rw [bi_neg (by assumption)]; rfl) | (rw [nar_bi]; exact congrArg (fun z => some (Value.int z)) (bi_congr (by simp_all))) | (simp_all [bi, nar]; done)), rfl⟩
theorem ef_rm_get (m : MethodId) (a0 : Addr) (p1 : Int32) : entryFrame m #[(.ref a0), (.int p1)] 2 = mkF m 0 #[.val (.ref a0), .val (.int p1)] [] := by first | (simp [entryFrame, mkF, argsToLocals, Value.category]; done) | rfl
def Q_rm_get (Z : State) (a0 : Addr) (p1 : Int32) (gi : Addr) (n : Nat) (I : Nat → Int32) (h0 : Heap) (n0 : Nat) (v : Option Value) (h : Heap) : Prop := v = some (.int (I p1.toNatClampNeg)) ∧ h = h0
set_option maxRecDepth 65536 in
set_option maxHeartbeats 40000000 in
theorem rm_get (l : Launch) (Z : State) (aw : Array Value) (hw : ∀ d ∈ tables_1, d.before aw Z = true) (a0 : Addr) (p1 : Int32) (gi : Addr) (n : Nat) (I : Nat → Int32) (h0 : Heap) (n0 : Nat) (F_a0_items : Fld Z h0 a0 "com/example/holdfast/holdfast/IndexStack" "items" "[I" (.ref gi)) (A_gi : Ary Z h0 gi .int n (fun i => (.int (I i)))) (hx : ¬ p1 < 0) (hx1 : p1.toNatClampNeg < n) :
    Con l Z (⟨"com/example/holdfast/holdfast/IndexStack", "get", "(I)I"⟩ : MethodName) prog_7_method_6_code 2 (some .int) ({ frames := 0, cells := 0, slots := 0, locals := 0 } : Room) #[(.ref a0), (.int p1)] h0 n0 (Q_rm_get Z a0 p1 gi n I h0 n0) := by
  refine Con.body (plainFor_of_name pn_0) ?_
  intro pr_ en_ st_ me_ below meth co_ T B S
  refine Goes.cast (ef_rm_get me_ a0 p1) ?_
  refine Goes.go (fun _ => XS.aloadN S.here B.x rfl (B.d d_prog_7_method_6_0) rfl rfl) ?_
  show Goes _ _ _ _ T (mkF me_ 1 #[.val (.ref a0), .val (.int p1)] [(.ref a0)])
  refine Goes.getF S B (w10 hw) F_a0_items d_prog_7_method_6_1 ?_
  intro T S
  show Goes _ _ _ _ T (mkF me_ 4 #[.val (.ref a0), .val (.int p1)] [(.ref gi)])
  refine Goes.go (fun _ => XS.iloadN S.here B.x rfl (B.d d_prog_7_method_6_4) rfl) ?_
  show Goes _ _ _ _ T (mkF me_ 5 #[.val (.ref a0), .val (.int p1)] [(.int p1), (.ref gi)])
  refine Goes.iaload S B A_gi hx hx1 d_prog_7_method_6_5 (v := (.int (I p1.toNatClampNeg))) rfl ?_
  show Goes _ _ _ _ T (mkF me_ 6 #[.val (.ref a0), .val (.int p1)] [(.int (I p1.toNatClampNeg))])
  refine Goes.retI S B d_prog_7_method_6_6 (by decide) (by decide) ?_
  exact ⟨(by first | rfl | (rw [bi_pos (by assumption)]; rfl) | (rw [bi_neg (by assumption)]; rfl) | (rw [nar_bi]; exact congrArg (fun z => some (Value.int z)) (bi_congr (by simp_all))) | (simp_all [bi, nar]; done)), rfl⟩
theorem ef_rm_push (m : MethodId) (a0 : Addr) (p1 : Int32) (p2 : Int32) : entryFrame m #[(.ref a0), (.int p1), (.int p2)] 3 = mkF m 0 #[.val (.ref a0), .val (.int p1), .val (.int p2)] [] := by first | (simp [entryFrame, mkF, argsToLocals, Value.category]; done) | rfl
def Q_rm_push (Z : State) (a0 : Addr) (p1 : Int32) (p2 : Int32) (f : Nat → Int32) (h0 : Heap) (n0 : Nat) (v : Option Value) (h : Heap) : Prop := ∃ (f2 : Nat → Int32) (r : Int32), v = some (.int r) ∧ Keep h0 h [a0] ∧ Ary Z h a0 .int 4 (fun i => (.int (f2 i))) ∧ (((((0 : Int32) < p1 ∧ f 0 = p2) ∨ ((1 : Int32) < p1 ∧ f 1 = p2) ∨ ((2 : Int32) < p1 ∧ f 2 = p2)) ∧ f = f2 ∧ p1 = r) ∨ (¬ (((0 : Int32) < p1 ∧ f 0 = p2) ∨ ((1 : Int32) < p1 ∧ f 1 = p2) ∨ ((2 : Int32) < p1 ∧ f 2 = p2)) ∧ f2 = aup f p1.toNatClampNeg p2 ∧ r = p1 + (1 : Int32)))
set_option maxRecDepth 65536 in
set_option maxHeartbeats 40000000 in
theorem rm_push (l : Launch) (Z : State) (aw : Array Value) (hw : ∀ d ∈ tables_1, d.before aw Z = true) (a0 : Addr) (p1 : Int32) (p2 : Int32) (f : Nat → Int32) (h0 : Heap) (n0 : Nat) (A_a0 : Ary Z h0 a0 .int 4 (fun i => (.int (f i)))) (g_a0 : n0 ≤ a0) (hp : ¬ p1 < 0) (hp1 : p1.toNatClampNeg < 4) :
    Con l Z (⟨"com/example/holdfast/holdfast/IndexStackAddPinLaw", "push", "([III)I"⟩ : MethodName) method_2_code 3 (some .int) ({ frames := 0, cells := 0, slots := 0, locals := 0 } : Room) #[(.ref a0), (.int p1), (.int p2)] h0 n0 (Q_rm_push Z a0 p1 p2 f h0 n0) := by
  refine Con.body (plainFor_of_name pn_1) ?_
  intro pr_ en_ st_ me_ below meth co_ T B S
  refine Goes.cast (ef_rm_push me_ a0 p1 p2) ?_
  have K : Keep h0 h0 [a0] := Keep.refl _ _
  refine Goes.go (fun _ => XS.iloadN S.here B.x rfl (B.d d_method_2_0) rfl) ?_
  show Goes _ _ _ _ T (mkF me_ 1 #[.val (.ref a0), .val (.int p1), .val (.int p2)] [(.int p1)])
  by_cases hc1 : (0 : Int32) < p1
  · skip
    refine Goes.go (fun _ => XS.ifNo S.here B.x rfl (B.d d_method_2_1) rfl ((if0 _ _).trans (tlt hc1).2.2.2)) ?_
    show Goes _ _ _ _ T (mkF me_ 4 #[.val (.ref a0), .val (.int p1), .val (.int p2)] [])
    refine Goes.go (fun _ => XS.aloadN S.here B.x rfl (B.d d_method_2_4) rfl rfl) ?_
    show Goes _ _ _ _ T (mkF me_ 5 #[.val (.ref a0), .val (.int p1), .val (.int p2)] [(.ref a0)])
    refine Goes.go (fun _ => XS.iconst S.here B.x rfl (B.d d_method_2_5)) ?_
    show Goes _ _ _ _ T (mkF me_ 6 #[.val (.ref a0), .val (.int p1), .val (.int p2)] [(.int (0 : Int32)), (.ref a0)])
    refine Goes.iaload S B A_a0 (by decide) (by decide) d_method_2_6 (v := (.int (f 0))) rfl ?_
    show Goes _ _ _ _ T (mkF me_ 7 #[.val (.ref a0), .val (.int p1), .val (.int p2)] [(.int (f 0))])
    refine Goes.go (fun _ => XS.iloadN S.here B.x rfl (B.d d_method_2_7) rfl) ?_
    show Goes _ _ _ _ T (mkF me_ 8 #[.val (.ref a0), .val (.int p1), .val (.int p2)] [(.int p2), (.int (f 0))])
    by_cases hc8 : (f 0) = p2
    · skip
      refine Goes.go (fun _ => XS.icmpNo S.here B.x rfl (B.d d_method_2_8) rfl (teq hc8).2) ?_
      show Goes _ _ _ _ T (mkF me_ 11 #[.val (.ref a0), .val (.int p1), .val (.int p2)] [])
      refine Goes.go (fun _ => XS.iloadN S.here B.x rfl (B.d d_method_2_11) rfl) ?_
      show Goes _ _ _ _ T (mkF me_ 12 #[.val (.ref a0), .val (.int p1), .val (.int p2)] [(.int p1)])
      refine Goes.retI S B d_method_2_12 (by decide) (by decide) ?_
      exact ⟨_, _, rfl, K, A_a0, Or.inl ⟨Or.inl ⟨hc1, hc8⟩, rfl, rfl⟩⟩
    · skip
      refine Goes.go (fun _ => XS.icmpYes S.here B.x rfl (pc0 := 8) (pc' := 13) rfl (B.d d_method_2_8) rfl (feq hc8).2 (by decide) (by decide)) ?_
      show Goes _ _ _ _ T (mkF me_ 13 #[.val (.ref a0), .val (.int p1), .val (.int p2)] [])
      refine Goes.go (fun _ => XS.iloadN S.here B.x rfl (B.d d_method_2_13) rfl) ?_
      show Goes _ _ _ _ T (mkF me_ 14 #[.val (.ref a0), .val (.int p1), .val (.int p2)] [(.int p1)])
      refine Goes.go (fun _ => XS.iconst S.here B.x rfl (B.d d_method_2_14)) ?_
      show Goes _ _ _ _ T (mkF me_ 15 #[.val (.ref a0), .val (.int p1), .val (.int p2)] [(.int (1 : Int32)), (.int p1)])
      by_cases hc15 : (1 : Int32) < p1
      · skip
        refine Goes.go (fun _ => XS.icmpNo S.here B.x rfl (B.d d_method_2_15) rfl (tlt hc15).2.2.2) ?_
        show Goes _ _ _ _ T (mkF me_ 18 #[.val (.ref a0), .val (.int p1), .val (.int p2)] [])
        refine Goes.go (fun _ => XS.aloadN S.here B.x rfl (B.d d_method_2_18) rfl rfl) ?_
        show Goes _ _ _ _ T (mkF me_ 19 #[.val (.ref a0), .val (.int p1), .val (.int p2)] [(.ref a0)])
        refine Goes.go (fun _ => XS.iconst S.here B.x rfl (B.d d_method_2_19)) ?_
        show Goes _ _ _ _ T (mkF me_ 20 #[.val (.ref a0), .val (.int p1), .val (.int p2)] [(.int (1 : Int32)), (.ref a0)])
        refine Goes.iaload S B A_a0 (by decide) (by decide) d_method_2_20 (v := (.int (f 1))) rfl ?_
        show Goes _ _ _ _ T (mkF me_ 21 #[.val (.ref a0), .val (.int p1), .val (.int p2)] [(.int (f 1))])
        refine Goes.go (fun _ => XS.iloadN S.here B.x rfl (B.d d_method_2_21) rfl) ?_
        show Goes _ _ _ _ T (mkF me_ 22 #[.val (.ref a0), .val (.int p1), .val (.int p2)] [(.int p2), (.int (f 1))])
        by_cases hc22 : (f 1) = p2
        · skip
          refine Goes.go (fun _ => XS.icmpNo S.here B.x rfl (B.d d_method_2_22) rfl (teq hc22).2) ?_
          show Goes _ _ _ _ T (mkF me_ 25 #[.val (.ref a0), .val (.int p1), .val (.int p2)] [])
          refine Goes.go (fun _ => XS.iloadN S.here B.x rfl (B.d d_method_2_25) rfl) ?_
          show Goes _ _ _ _ T (mkF me_ 26 #[.val (.ref a0), .val (.int p1), .val (.int p2)] [(.int p1)])
          refine Goes.retI S B d_method_2_26 (by decide) (by decide) ?_
          exact ⟨_, _, rfl, K, A_a0, Or.inl ⟨Or.inr (Or.inl ⟨hc15, hc22⟩), rfl, rfl⟩⟩
        · skip
          refine Goes.go (fun _ => XS.icmpYes S.here B.x rfl (pc0 := 22) (pc' := 27) rfl (B.d d_method_2_22) rfl (feq hc22).2 (by decide) (by decide)) ?_
          show Goes _ _ _ _ T (mkF me_ 27 #[.val (.ref a0), .val (.int p1), .val (.int p2)] [])
          refine Goes.go (fun _ => XS.iloadN S.here B.x rfl (B.d d_method_2_27) rfl) ?_
          show Goes _ _ _ _ T (mkF me_ 28 #[.val (.ref a0), .val (.int p1), .val (.int p2)] [(.int p1)])
          refine Goes.go (fun _ => XS.iconst S.here B.x rfl (B.d d_method_2_28)) ?_
          show Goes _ _ _ _ T (mkF me_ 29 #[.val (.ref a0), .val (.int p1), .val (.int p2)] [(.int (2 : Int32)), (.int p1)])
          by_cases hc29 : (2 : Int32) < p1
          · skip
            refine Goes.go (fun _ => XS.icmpNo S.here B.x rfl (B.d d_method_2_29) rfl (tlt hc29).2.2.2) ?_
            show Goes _ _ _ _ T (mkF me_ 32 #[.val (.ref a0), .val (.int p1), .val (.int p2)] [])
            refine Goes.go (fun _ => XS.aloadN S.here B.x rfl (B.d d_method_2_32) rfl rfl) ?_
            show Goes _ _ _ _ T (mkF me_ 33 #[.val (.ref a0), .val (.int p1), .val (.int p2)] [(.ref a0)])
            refine Goes.go (fun _ => XS.iconst S.here B.x rfl (B.d d_method_2_33)) ?_
            show Goes _ _ _ _ T (mkF me_ 34 #[.val (.ref a0), .val (.int p1), .val (.int p2)] [(.int (2 : Int32)), (.ref a0)])
            refine Goes.iaload S B A_a0 (by decide) (by decide) d_method_2_34 (v := (.int (f 2))) rfl ?_
            show Goes _ _ _ _ T (mkF me_ 35 #[.val (.ref a0), .val (.int p1), .val (.int p2)] [(.int (f 2))])
            refine Goes.go (fun _ => XS.iloadN S.here B.x rfl (B.d d_method_2_35) rfl) ?_
            show Goes _ _ _ _ T (mkF me_ 36 #[.val (.ref a0), .val (.int p1), .val (.int p2)] [(.int p2), (.int (f 2))])
            by_cases hc36 : (f 2) = p2
            · skip
              refine Goes.go (fun _ => XS.icmpNo S.here B.x rfl (B.d d_method_2_36) rfl (teq hc36).2) ?_
              show Goes _ _ _ _ T (mkF me_ 39 #[.val (.ref a0), .val (.int p1), .val (.int p2)] [])
              refine Goes.go (fun _ => XS.iloadN S.here B.x rfl (B.d d_method_2_39) rfl) ?_
              show Goes _ _ _ _ T (mkF me_ 40 #[.val (.ref a0), .val (.int p1), .val (.int p2)] [(.int p1)])
              refine Goes.retI S B d_method_2_40 (by decide) (by decide) ?_
              exact ⟨_, _, rfl, K, A_a0, Or.inl ⟨Or.inr (Or.inr ⟨hc29, hc36⟩), rfl, rfl⟩⟩
            · skip
              refine Goes.go (fun _ => XS.icmpYes S.here B.x rfl (pc0 := 36) (pc' := 41) rfl (B.d d_method_2_36) rfl (feq hc36).2 (by decide) (by decide)) ?_
              show Goes _ _ _ _ T (mkF me_ 41 #[.val (.ref a0), .val (.int p1), .val (.int p2)] [])
              refine Goes.go (fun _ => XS.aloadN S.here B.x rfl (B.d d_method_2_41) rfl rfl) ?_
              show Goes _ _ _ _ T (mkF me_ 42 #[.val (.ref a0), .val (.int p1), .val (.int p2)] [(.ref a0)])
              refine Goes.go (fun _ => XS.iloadN S.here B.x rfl (B.d d_method_2_42) rfl) ?_
              show Goes _ _ _ _ T (mkF me_ 43 #[.val (.ref a0), .val (.int p1), .val (.int p2)] [(.int p1), (.ref a0)])
              refine Goes.go (fun _ => XS.iloadN S.here B.x rfl (B.d d_method_2_43) rfl) ?_
              show Goes _ _ _ _ T (mkF me_ 44 #[.val (.ref a0), .val (.int p1), .val (.int p2)] [(.int p2), (.int p1), (.ref a0)])
              refine Goes.iastore S B A_a0 hp hp1 g_a0 d_method_2_44 ?_
              intro T h S W A_a0
              replace K := K.wr W (Or.inl (by simp))
              replace A_a0 : Ary Z h a0 .int 4 (aup (fun i => (.int (f i))) p1.toNatClampNeg (.int p2)) := A_a0
              rw [aup_int] at A_a0
              show Goes _ _ _ _ T (mkF me_ 45 #[.val (.ref a0), .val (.int p1), .val (.int p2)] [])
              refine Goes.go (fun _ => XS.iloadN S.here B.x rfl (B.d d_method_2_45) rfl) ?_
              show Goes _ _ _ _ T (mkF me_ 46 #[.val (.ref a0), .val (.int p1), .val (.int p2)] [(.int p1)])
              refine Goes.go (fun _ => XS.iconst S.here B.x rfl (B.d d_method_2_46)) ?_
              show Goes _ _ _ _ T (mkF me_ 47 #[.val (.ref a0), .val (.int p1), .val (.int p2)] [(.int (1 : Int32)), (.int p1)])
              refine Goes.go (fun _ => XS.iadd S.here B.x rfl (B.d d_method_2_47) rfl) ?_
              show Goes _ _ _ _ T (mkF me_ 48 #[.val (.ref a0), .val (.int p1), .val (.int p2)] [(.int (p1 + (1 : Int32)))])
              refine Goes.retI S B d_method_2_48 (by decide) (by decide) ?_
              exact ⟨_, _, rfl, K, A_a0, Or.inr ⟨(fun q => by rcases q with ⟨a, b⟩ | ⟨a, b⟩ | ⟨a, b⟩ <;> first | exact absurd a (by assumption) | exact absurd b (by assumption)), rfl, rfl⟩⟩
          · skip
            refine Goes.go (fun _ => XS.icmpYes S.here B.x rfl (pc0 := 29) (pc' := 41) rfl (B.d d_method_2_29) rfl (flt hc29).2.2.2 (by decide) (by decide)) ?_
            show Goes _ _ _ _ T (mkF me_ 41 #[.val (.ref a0), .val (.int p1), .val (.int p2)] [])
            refine Goes.go (fun _ => XS.aloadN S.here B.x rfl (B.d d_method_2_41) rfl rfl) ?_
            show Goes _ _ _ _ T (mkF me_ 42 #[.val (.ref a0), .val (.int p1), .val (.int p2)] [(.ref a0)])
            refine Goes.go (fun _ => XS.iloadN S.here B.x rfl (B.d d_method_2_42) rfl) ?_
            show Goes _ _ _ _ T (mkF me_ 43 #[.val (.ref a0), .val (.int p1), .val (.int p2)] [(.int p1), (.ref a0)])
            refine Goes.go (fun _ => XS.iloadN S.here B.x rfl (B.d d_method_2_43) rfl) ?_
            show Goes _ _ _ _ T (mkF me_ 44 #[.val (.ref a0), .val (.int p1), .val (.int p2)] [(.int p2), (.int p1), (.ref a0)])
            refine Goes.iastore S B A_a0 hp hp1 g_a0 d_method_2_44 ?_
            intro T h S W A_a0
            replace K := K.wr W (Or.inl (by simp))
            replace A_a0 : Ary Z h a0 .int 4 (aup (fun i => (.int (f i))) p1.toNatClampNeg (.int p2)) := A_a0
            rw [aup_int] at A_a0
            show Goes _ _ _ _ T (mkF me_ 45 #[.val (.ref a0), .val (.int p1), .val (.int p2)] [])
            refine Goes.go (fun _ => XS.iloadN S.here B.x rfl (B.d d_method_2_45) rfl) ?_
            show Goes _ _ _ _ T (mkF me_ 46 #[.val (.ref a0), .val (.int p1), .val (.int p2)] [(.int p1)])
            refine Goes.go (fun _ => XS.iconst S.here B.x rfl (B.d d_method_2_46)) ?_
            show Goes _ _ _ _ T (mkF me_ 47 #[.val (.ref a0), .val (.int p1), .val (.int p2)] [(.int (1 : Int32)), (.int p1)])
            refine Goes.go (fun _ => XS.iadd S.here B.x rfl (B.d d_method_2_47) rfl) ?_
            show Goes _ _ _ _ T (mkF me_ 48 #[.val (.ref a0), .val (.int p1), .val (.int p2)] [(.int (p1 + (1 : Int32)))])
            refine Goes.retI S B d_method_2_48 (by decide) (by decide) ?_
            exact ⟨_, _, rfl, K, A_a0, Or.inr ⟨(fun q => by rcases q with ⟨a, b⟩ | ⟨a, b⟩ | ⟨a, b⟩ <;> first | exact absurd a (by assumption) | exact absurd b (by assumption)), rfl, rfl⟩⟩
      · skip
        refine Goes.go (fun _ => XS.icmpYes S.here B.x rfl (pc0 := 15) (pc' := 27) rfl (B.d d_method_2_15) rfl (flt hc15).2.2.2 (by decide) (by decide)) ?_
        show Goes _ _ _ _ T (mkF me_ 27 #[.val (.ref a0), .val (.int p1), .val (.int p2)] [])
        refine Goes.go (fun _ => XS.iloadN S.here B.x rfl (B.d d_method_2_27) rfl) ?_
        show Goes _ _ _ _ T (mkF me_ 28 #[.val (.ref a0), .val (.int p1), .val (.int p2)] [(.int p1)])
        refine Goes.go (fun _ => XS.iconst S.here B.x rfl (B.d d_method_2_28)) ?_
        show Goes _ _ _ _ T (mkF me_ 29 #[.val (.ref a0), .val (.int p1), .val (.int p2)] [(.int (2 : Int32)), (.int p1)])
        by_cases hc29 : (2 : Int32) < p1
        · skip
          refine Goes.go (fun _ => XS.icmpNo S.here B.x rfl (B.d d_method_2_29) rfl (tlt hc29).2.2.2) ?_
          show Goes _ _ _ _ T (mkF me_ 32 #[.val (.ref a0), .val (.int p1), .val (.int p2)] [])
          refine Goes.go (fun _ => XS.aloadN S.here B.x rfl (B.d d_method_2_32) rfl rfl) ?_
          show Goes _ _ _ _ T (mkF me_ 33 #[.val (.ref a0), .val (.int p1), .val (.int p2)] [(.ref a0)])
          refine Goes.go (fun _ => XS.iconst S.here B.x rfl (B.d d_method_2_33)) ?_
          show Goes _ _ _ _ T (mkF me_ 34 #[.val (.ref a0), .val (.int p1), .val (.int p2)] [(.int (2 : Int32)), (.ref a0)])
          refine Goes.iaload S B A_a0 (by decide) (by decide) d_method_2_34 (v := (.int (f 2))) rfl ?_
          show Goes _ _ _ _ T (mkF me_ 35 #[.val (.ref a0), .val (.int p1), .val (.int p2)] [(.int (f 2))])
          refine Goes.go (fun _ => XS.iloadN S.here B.x rfl (B.d d_method_2_35) rfl) ?_
          show Goes _ _ _ _ T (mkF me_ 36 #[.val (.ref a0), .val (.int p1), .val (.int p2)] [(.int p2), (.int (f 2))])
          by_cases hc36 : (f 2) = p2
          · skip
            refine Goes.go (fun _ => XS.icmpNo S.here B.x rfl (B.d d_method_2_36) rfl (teq hc36).2) ?_
            show Goes _ _ _ _ T (mkF me_ 39 #[.val (.ref a0), .val (.int p1), .val (.int p2)] [])
            refine Goes.go (fun _ => XS.iloadN S.here B.x rfl (B.d d_method_2_39) rfl) ?_
            show Goes _ _ _ _ T (mkF me_ 40 #[.val (.ref a0), .val (.int p1), .val (.int p2)] [(.int p1)])
            refine Goes.retI S B d_method_2_40 (by decide) (by decide) ?_
            exact ⟨_, _, rfl, K, A_a0, Or.inl ⟨Or.inr (Or.inr ⟨hc29, hc36⟩), rfl, rfl⟩⟩
          · skip
            refine Goes.go (fun _ => XS.icmpYes S.here B.x rfl (pc0 := 36) (pc' := 41) rfl (B.d d_method_2_36) rfl (feq hc36).2 (by decide) (by decide)) ?_
            show Goes _ _ _ _ T (mkF me_ 41 #[.val (.ref a0), .val (.int p1), .val (.int p2)] [])
            refine Goes.go (fun _ => XS.aloadN S.here B.x rfl (B.d d_method_2_41) rfl rfl) ?_
            show Goes _ _ _ _ T (mkF me_ 42 #[.val (.ref a0), .val (.int p1), .val (.int p2)] [(.ref a0)])
            refine Goes.go (fun _ => XS.iloadN S.here B.x rfl (B.d d_method_2_42) rfl) ?_
            show Goes _ _ _ _ T (mkF me_ 43 #[.val (.ref a0), .val (.int p1), .val (.int p2)] [(.int p1), (.ref a0)])
            refine Goes.go (fun _ => XS.iloadN S.here B.x rfl (B.d d_method_2_43) rfl) ?_
            show Goes _ _ _ _ T (mkF me_ 44 #[.val (.ref a0), .val (.int p1), .val (.int p2)] [(.int p2), (.int p1), (.ref a0)])
            refine Goes.iastore S B A_a0 hp hp1 g_a0 d_method_2_44 ?_
            intro T h S W A_a0
            replace K := K.wr W (Or.inl (by simp))
            replace A_a0 : Ary Z h a0 .int 4 (aup (fun i => (.int (f i))) p1.toNatClampNeg (.int p2)) := A_a0
            rw [aup_int] at A_a0
            show Goes _ _ _ _ T (mkF me_ 45 #[.val (.ref a0), .val (.int p1), .val (.int p2)] [])
            refine Goes.go (fun _ => XS.iloadN S.here B.x rfl (B.d d_method_2_45) rfl) ?_
            show Goes _ _ _ _ T (mkF me_ 46 #[.val (.ref a0), .val (.int p1), .val (.int p2)] [(.int p1)])
            refine Goes.go (fun _ => XS.iconst S.here B.x rfl (B.d d_method_2_46)) ?_
            show Goes _ _ _ _ T (mkF me_ 47 #[.val (.ref a0), .val (.int p1), .val (.int p2)] [(.int (1 : Int32)), (.int p1)])
            refine Goes.go (fun _ => XS.iadd S.here B.x rfl (B.d d_method_2_47) rfl) ?_
            show Goes _ _ _ _ T (mkF me_ 48 #[.val (.ref a0), .val (.int p1), .val (.int p2)] [(.int (p1 + (1 : Int32)))])
            refine Goes.retI S B d_method_2_48 (by decide) (by decide) ?_
            exact ⟨_, _, rfl, K, A_a0, Or.inr ⟨(fun q => by rcases q with ⟨a, b⟩ | ⟨a, b⟩ | ⟨a, b⟩ <;> first | exact absurd a (by assumption) | exact absurd b (by assumption)), rfl, rfl⟩⟩
        · skip
          refine Goes.go (fun _ => XS.icmpYes S.here B.x rfl (pc0 := 29) (pc' := 41) rfl (B.d d_method_2_29) rfl (flt hc29).2.2.2 (by decide) (by decide)) ?_
          show Goes _ _ _ _ T (mkF me_ 41 #[.val (.ref a0), .val (.int p1), .val (.int p2)] [])
          refine Goes.go (fun _ => XS.aloadN S.here B.x rfl (B.d d_method_2_41) rfl rfl) ?_
          show Goes _ _ _ _ T (mkF me_ 42 #[.val (.ref a0), .val (.int p1), .val (.int p2)] [(.ref a0)])
          refine Goes.go (fun _ => XS.iloadN S.here B.x rfl (B.d d_method_2_42) rfl) ?_
          show Goes _ _ _ _ T (mkF me_ 43 #[.val (.ref a0), .val (.int p1), .val (.int p2)] [(.int p1), (.ref a0)])
          refine Goes.go (fun _ => XS.iloadN S.here B.x rfl (B.d d_method_2_43) rfl) ?_
          show Goes _ _ _ _ T (mkF me_ 44 #[.val (.ref a0), .val (.int p1), .val (.int p2)] [(.int p2), (.int p1), (.ref a0)])
          refine Goes.iastore S B A_a0 hp hp1 g_a0 d_method_2_44 ?_
          intro T h S W A_a0
          replace K := K.wr W (Or.inl (by simp))
          replace A_a0 : Ary Z h a0 .int 4 (aup (fun i => (.int (f i))) p1.toNatClampNeg (.int p2)) := A_a0
          rw [aup_int] at A_a0
          show Goes _ _ _ _ T (mkF me_ 45 #[.val (.ref a0), .val (.int p1), .val (.int p2)] [])
          refine Goes.go (fun _ => XS.iloadN S.here B.x rfl (B.d d_method_2_45) rfl) ?_
          show Goes _ _ _ _ T (mkF me_ 46 #[.val (.ref a0), .val (.int p1), .val (.int p2)] [(.int p1)])
          refine Goes.go (fun _ => XS.iconst S.here B.x rfl (B.d d_method_2_46)) ?_
          show Goes _ _ _ _ T (mkF me_ 47 #[.val (.ref a0), .val (.int p1), .val (.int p2)] [(.int (1 : Int32)), (.int p1)])
          refine Goes.go (fun _ => XS.iadd S.here B.x rfl (B.d d_method_2_47) rfl) ?_
          show Goes _ _ _ _ T (mkF me_ 48 #[.val (.ref a0), .val (.int p1), .val (.int p2)] [(.int (p1 + (1 : Int32)))])
          refine Goes.retI S B d_method_2_48 (by decide) (by decide) ?_
          exact ⟨_, _, rfl, K, A_a0, Or.inr ⟨(fun q => by rcases q with ⟨a, b⟩ | ⟨a, b⟩ | ⟨a, b⟩ <;> first | exact absurd a (by assumption) | exact absurd b (by assumption)), rfl, rfl⟩⟩
  · skip
    refine Goes.go (fun _ => XS.ifYes S.here B.x rfl (pc0 := 1) (pc' := 13) rfl (B.d d_method_2_1) rfl ((if0 _ _).trans (flt hc1).2.2.2) (by decide) (by decide)) ?_
    show Goes _ _ _ _ T (mkF me_ 13 #[.val (.ref a0), .val (.int p1), .val (.int p2)] [])
    refine Goes.go (fun _ => XS.iloadN S.here B.x rfl (B.d d_method_2_13) rfl) ?_
    show Goes _ _ _ _ T (mkF me_ 14 #[.val (.ref a0), .val (.int p1), .val (.int p2)] [(.int p1)])
    refine Goes.go (fun _ => XS.iconst S.here B.x rfl (B.d d_method_2_14)) ?_
    show Goes _ _ _ _ T (mkF me_ 15 #[.val (.ref a0), .val (.int p1), .val (.int p2)] [(.int (1 : Int32)), (.int p1)])
    by_cases hc15 : (1 : Int32) < p1
    · skip
      refine Goes.go (fun _ => XS.icmpNo S.here B.x rfl (B.d d_method_2_15) rfl (tlt hc15).2.2.2) ?_
      show Goes _ _ _ _ T (mkF me_ 18 #[.val (.ref a0), .val (.int p1), .val (.int p2)] [])
      refine Goes.go (fun _ => XS.aloadN S.here B.x rfl (B.d d_method_2_18) rfl rfl) ?_
      show Goes _ _ _ _ T (mkF me_ 19 #[.val (.ref a0), .val (.int p1), .val (.int p2)] [(.ref a0)])
      refine Goes.go (fun _ => XS.iconst S.here B.x rfl (B.d d_method_2_19)) ?_
      show Goes _ _ _ _ T (mkF me_ 20 #[.val (.ref a0), .val (.int p1), .val (.int p2)] [(.int (1 : Int32)), (.ref a0)])
      refine Goes.iaload S B A_a0 (by decide) (by decide) d_method_2_20 (v := (.int (f 1))) rfl ?_
      show Goes _ _ _ _ T (mkF me_ 21 #[.val (.ref a0), .val (.int p1), .val (.int p2)] [(.int (f 1))])
      refine Goes.go (fun _ => XS.iloadN S.here B.x rfl (B.d d_method_2_21) rfl) ?_
      show Goes _ _ _ _ T (mkF me_ 22 #[.val (.ref a0), .val (.int p1), .val (.int p2)] [(.int p2), (.int (f 1))])
      by_cases hc22 : (f 1) = p2
      · skip
        refine Goes.go (fun _ => XS.icmpNo S.here B.x rfl (B.d d_method_2_22) rfl (teq hc22).2) ?_
        show Goes _ _ _ _ T (mkF me_ 25 #[.val (.ref a0), .val (.int p1), .val (.int p2)] [])
        refine Goes.go (fun _ => XS.iloadN S.here B.x rfl (B.d d_method_2_25) rfl) ?_
        show Goes _ _ _ _ T (mkF me_ 26 #[.val (.ref a0), .val (.int p1), .val (.int p2)] [(.int p1)])
        refine Goes.retI S B d_method_2_26 (by decide) (by decide) ?_
        exact ⟨_, _, rfl, K, A_a0, Or.inl ⟨Or.inr (Or.inl ⟨hc15, hc22⟩), rfl, rfl⟩⟩
      · skip
        refine Goes.go (fun _ => XS.icmpYes S.here B.x rfl (pc0 := 22) (pc' := 27) rfl (B.d d_method_2_22) rfl (feq hc22).2 (by decide) (by decide)) ?_
        show Goes _ _ _ _ T (mkF me_ 27 #[.val (.ref a0), .val (.int p1), .val (.int p2)] [])
        refine Goes.go (fun _ => XS.iloadN S.here B.x rfl (B.d d_method_2_27) rfl) ?_
        show Goes _ _ _ _ T (mkF me_ 28 #[.val (.ref a0), .val (.int p1), .val (.int p2)] [(.int p1)])
        refine Goes.go (fun _ => XS.iconst S.here B.x rfl (B.d d_method_2_28)) ?_
        show Goes _ _ _ _ T (mkF me_ 29 #[.val (.ref a0), .val (.int p1), .val (.int p2)] [(.int (2 : Int32)), (.int p1)])
        by_cases hc29 : (2 : Int32) < p1
        · skip
          refine Goes.go (fun _ => XS.icmpNo S.here B.x rfl (B.d d_method_2_29) rfl (tlt hc29).2.2.2) ?_
          show Goes _ _ _ _ T (mkF me_ 32 #[.val (.ref a0), .val (.int p1), .val (.int p2)] [])
          refine Goes.go (fun _ => XS.aloadN S.here B.x rfl (B.d d_method_2_32) rfl rfl) ?_
          show Goes _ _ _ _ T (mkF me_ 33 #[.val (.ref a0), .val (.int p1), .val (.int p2)] [(.ref a0)])
          refine Goes.go (fun _ => XS.iconst S.here B.x rfl (B.d d_method_2_33)) ?_
          show Goes _ _ _ _ T (mkF me_ 34 #[.val (.ref a0), .val (.int p1), .val (.int p2)] [(.int (2 : Int32)), (.ref a0)])
          refine Goes.iaload S B A_a0 (by decide) (by decide) d_method_2_34 (v := (.int (f 2))) rfl ?_
          show Goes _ _ _ _ T (mkF me_ 35 #[.val (.ref a0), .val (.int p1), .val (.int p2)] [(.int (f 2))])
          refine Goes.go (fun _ => XS.iloadN S.here B.x rfl (B.d d_method_2_35) rfl) ?_
          show Goes _ _ _ _ T (mkF me_ 36 #[.val (.ref a0), .val (.int p1), .val (.int p2)] [(.int p2), (.int (f 2))])
          by_cases hc36 : (f 2) = p2
          · skip
            refine Goes.go (fun _ => XS.icmpNo S.here B.x rfl (B.d d_method_2_36) rfl (teq hc36).2) ?_
            show Goes _ _ _ _ T (mkF me_ 39 #[.val (.ref a0), .val (.int p1), .val (.int p2)] [])
            refine Goes.go (fun _ => XS.iloadN S.here B.x rfl (B.d d_method_2_39) rfl) ?_
            show Goes _ _ _ _ T (mkF me_ 40 #[.val (.ref a0), .val (.int p1), .val (.int p2)] [(.int p1)])
            refine Goes.retI S B d_method_2_40 (by decide) (by decide) ?_
            exact ⟨_, _, rfl, K, A_a0, Or.inl ⟨Or.inr (Or.inr ⟨hc29, hc36⟩), rfl, rfl⟩⟩
          · skip
            refine Goes.go (fun _ => XS.icmpYes S.here B.x rfl (pc0 := 36) (pc' := 41) rfl (B.d d_method_2_36) rfl (feq hc36).2 (by decide) (by decide)) ?_
            show Goes _ _ _ _ T (mkF me_ 41 #[.val (.ref a0), .val (.int p1), .val (.int p2)] [])
            refine Goes.go (fun _ => XS.aloadN S.here B.x rfl (B.d d_method_2_41) rfl rfl) ?_
            show Goes _ _ _ _ T (mkF me_ 42 #[.val (.ref a0), .val (.int p1), .val (.int p2)] [(.ref a0)])
            refine Goes.go (fun _ => XS.iloadN S.here B.x rfl (B.d d_method_2_42) rfl) ?_
            show Goes _ _ _ _ T (mkF me_ 43 #[.val (.ref a0), .val (.int p1), .val (.int p2)] [(.int p1), (.ref a0)])
            refine Goes.go (fun _ => XS.iloadN S.here B.x rfl (B.d d_method_2_43) rfl) ?_
            show Goes _ _ _ _ T (mkF me_ 44 #[.val (.ref a0), .val (.int p1), .val (.int p2)] [(.int p2), (.int p1), (.ref a0)])
            refine Goes.iastore S B A_a0 hp hp1 g_a0 d_method_2_44 ?_
            intro T h S W A_a0
            replace K := K.wr W (Or.inl (by simp))
            replace A_a0 : Ary Z h a0 .int 4 (aup (fun i => (.int (f i))) p1.toNatClampNeg (.int p2)) := A_a0
            rw [aup_int] at A_a0
            show Goes _ _ _ _ T (mkF me_ 45 #[.val (.ref a0), .val (.int p1), .val (.int p2)] [])
            refine Goes.go (fun _ => XS.iloadN S.here B.x rfl (B.d d_method_2_45) rfl) ?_
            show Goes _ _ _ _ T (mkF me_ 46 #[.val (.ref a0), .val (.int p1), .val (.int p2)] [(.int p1)])
            refine Goes.go (fun _ => XS.iconst S.here B.x rfl (B.d d_method_2_46)) ?_
            show Goes _ _ _ _ T (mkF me_ 47 #[.val (.ref a0), .val (.int p1), .val (.int p2)] [(.int (1 : Int32)), (.int p1)])
            refine Goes.go (fun _ => XS.iadd S.here B.x rfl (B.d d_method_2_47) rfl) ?_
            show Goes _ _ _ _ T (mkF me_ 48 #[.val (.ref a0), .val (.int p1), .val (.int p2)] [(.int (p1 + (1 : Int32)))])
            refine Goes.retI S B d_method_2_48 (by decide) (by decide) ?_
            exact ⟨_, _, rfl, K, A_a0, Or.inr ⟨(fun q => by rcases q with ⟨a, b⟩ | ⟨a, b⟩ | ⟨a, b⟩ <;> first | exact absurd a (by assumption) | exact absurd b (by assumption)), rfl, rfl⟩⟩
        · skip
          refine Goes.go (fun _ => XS.icmpYes S.here B.x rfl (pc0 := 29) (pc' := 41) rfl (B.d d_method_2_29) rfl (flt hc29).2.2.2 (by decide) (by decide)) ?_
          show Goes _ _ _ _ T (mkF me_ 41 #[.val (.ref a0), .val (.int p1), .val (.int p2)] [])
          refine Goes.go (fun _ => XS.aloadN S.here B.x rfl (B.d d_method_2_41) rfl rfl) ?_
          show Goes _ _ _ _ T (mkF me_ 42 #[.val (.ref a0), .val (.int p1), .val (.int p2)] [(.ref a0)])
          refine Goes.go (fun _ => XS.iloadN S.here B.x rfl (B.d d_method_2_42) rfl) ?_
          show Goes _ _ _ _ T (mkF me_ 43 #[.val (.ref a0), .val (.int p1), .val (.int p2)] [(.int p1), (.ref a0)])
          refine Goes.go (fun _ => XS.iloadN S.here B.x rfl (B.d d_method_2_43) rfl) ?_
          show Goes _ _ _ _ T (mkF me_ 44 #[.val (.ref a0), .val (.int p1), .val (.int p2)] [(.int p2), (.int p1), (.ref a0)])
          refine Goes.iastore S B A_a0 hp hp1 g_a0 d_method_2_44 ?_
          intro T h S W A_a0
          replace K := K.wr W (Or.inl (by simp))
          replace A_a0 : Ary Z h a0 .int 4 (aup (fun i => (.int (f i))) p1.toNatClampNeg (.int p2)) := A_a0
          rw [aup_int] at A_a0
          show Goes _ _ _ _ T (mkF me_ 45 #[.val (.ref a0), .val (.int p1), .val (.int p2)] [])
          refine Goes.go (fun _ => XS.iloadN S.here B.x rfl (B.d d_method_2_45) rfl) ?_
          show Goes _ _ _ _ T (mkF me_ 46 #[.val (.ref a0), .val (.int p1), .val (.int p2)] [(.int p1)])
          refine Goes.go (fun _ => XS.iconst S.here B.x rfl (B.d d_method_2_46)) ?_
          show Goes _ _ _ _ T (mkF me_ 47 #[.val (.ref a0), .val (.int p1), .val (.int p2)] [(.int (1 : Int32)), (.int p1)])
          refine Goes.go (fun _ => XS.iadd S.here B.x rfl (B.d d_method_2_47) rfl) ?_
          show Goes _ _ _ _ T (mkF me_ 48 #[.val (.ref a0), .val (.int p1), .val (.int p2)] [(.int (p1 + (1 : Int32)))])
          refine Goes.retI S B d_method_2_48 (by decide) (by decide) ?_
          exact ⟨_, _, rfl, K, A_a0, Or.inr ⟨(fun q => by rcases q with ⟨a, b⟩ | ⟨a, b⟩ | ⟨a, b⟩ <;> first | exact absurd a (by assumption) | exact absurd b (by assumption)), rfl, rfl⟩⟩
    · skip
      refine Goes.go (fun _ => XS.icmpYes S.here B.x rfl (pc0 := 15) (pc' := 27) rfl (B.d d_method_2_15) rfl (flt hc15).2.2.2 (by decide) (by decide)) ?_
      show Goes _ _ _ _ T (mkF me_ 27 #[.val (.ref a0), .val (.int p1), .val (.int p2)] [])
      refine Goes.go (fun _ => XS.iloadN S.here B.x rfl (B.d d_method_2_27) rfl) ?_
      show Goes _ _ _ _ T (mkF me_ 28 #[.val (.ref a0), .val (.int p1), .val (.int p2)] [(.int p1)])
      refine Goes.go (fun _ => XS.iconst S.here B.x rfl (B.d d_method_2_28)) ?_
      show Goes _ _ _ _ T (mkF me_ 29 #[.val (.ref a0), .val (.int p1), .val (.int p2)] [(.int (2 : Int32)), (.int p1)])
      by_cases hc29 : (2 : Int32) < p1
      · skip
        refine Goes.go (fun _ => XS.icmpNo S.here B.x rfl (B.d d_method_2_29) rfl (tlt hc29).2.2.2) ?_
        show Goes _ _ _ _ T (mkF me_ 32 #[.val (.ref a0), .val (.int p1), .val (.int p2)] [])
        refine Goes.go (fun _ => XS.aloadN S.here B.x rfl (B.d d_method_2_32) rfl rfl) ?_
        show Goes _ _ _ _ T (mkF me_ 33 #[.val (.ref a0), .val (.int p1), .val (.int p2)] [(.ref a0)])
        refine Goes.go (fun _ => XS.iconst S.here B.x rfl (B.d d_method_2_33)) ?_
        show Goes _ _ _ _ T (mkF me_ 34 #[.val (.ref a0), .val (.int p1), .val (.int p2)] [(.int (2 : Int32)), (.ref a0)])
        refine Goes.iaload S B A_a0 (by decide) (by decide) d_method_2_34 (v := (.int (f 2))) rfl ?_
        show Goes _ _ _ _ T (mkF me_ 35 #[.val (.ref a0), .val (.int p1), .val (.int p2)] [(.int (f 2))])
        refine Goes.go (fun _ => XS.iloadN S.here B.x rfl (B.d d_method_2_35) rfl) ?_
        show Goes _ _ _ _ T (mkF me_ 36 #[.val (.ref a0), .val (.int p1), .val (.int p2)] [(.int p2), (.int (f 2))])
        by_cases hc36 : (f 2) = p2
        · skip
          refine Goes.go (fun _ => XS.icmpNo S.here B.x rfl (B.d d_method_2_36) rfl (teq hc36).2) ?_
          show Goes _ _ _ _ T (mkF me_ 39 #[.val (.ref a0), .val (.int p1), .val (.int p2)] [])
          refine Goes.go (fun _ => XS.iloadN S.here B.x rfl (B.d d_method_2_39) rfl) ?_
          show Goes _ _ _ _ T (mkF me_ 40 #[.val (.ref a0), .val (.int p1), .val (.int p2)] [(.int p1)])
          refine Goes.retI S B d_method_2_40 (by decide) (by decide) ?_
          exact ⟨_, _, rfl, K, A_a0, Or.inl ⟨Or.inr (Or.inr ⟨hc29, hc36⟩), rfl, rfl⟩⟩
        · skip
          refine Goes.go (fun _ => XS.icmpYes S.here B.x rfl (pc0 := 36) (pc' := 41) rfl (B.d d_method_2_36) rfl (feq hc36).2 (by decide) (by decide)) ?_
          show Goes _ _ _ _ T (mkF me_ 41 #[.val (.ref a0), .val (.int p1), .val (.int p2)] [])
          refine Goes.go (fun _ => XS.aloadN S.here B.x rfl (B.d d_method_2_41) rfl rfl) ?_
          show Goes _ _ _ _ T (mkF me_ 42 #[.val (.ref a0), .val (.int p1), .val (.int p2)] [(.ref a0)])
          refine Goes.go (fun _ => XS.iloadN S.here B.x rfl (B.d d_method_2_42) rfl) ?_
          show Goes _ _ _ _ T (mkF me_ 43 #[.val (.ref a0), .val (.int p1), .val (.int p2)] [(.int p1), (.ref a0)])
          refine Goes.go (fun _ => XS.iloadN S.here B.x rfl (B.d d_method_2_43) rfl) ?_
          show Goes _ _ _ _ T (mkF me_ 44 #[.val (.ref a0), .val (.int p1), .val (.int p2)] [(.int p2), (.int p1), (.ref a0)])
          refine Goes.iastore S B A_a0 hp hp1 g_a0 d_method_2_44 ?_
          intro T h S W A_a0
          replace K := K.wr W (Or.inl (by simp))
          replace A_a0 : Ary Z h a0 .int 4 (aup (fun i => (.int (f i))) p1.toNatClampNeg (.int p2)) := A_a0
          rw [aup_int] at A_a0
          show Goes _ _ _ _ T (mkF me_ 45 #[.val (.ref a0), .val (.int p1), .val (.int p2)] [])
          refine Goes.go (fun _ => XS.iloadN S.here B.x rfl (B.d d_method_2_45) rfl) ?_
          show Goes _ _ _ _ T (mkF me_ 46 #[.val (.ref a0), .val (.int p1), .val (.int p2)] [(.int p1)])
          refine Goes.go (fun _ => XS.iconst S.here B.x rfl (B.d d_method_2_46)) ?_
          show Goes _ _ _ _ T (mkF me_ 47 #[.val (.ref a0), .val (.int p1), .val (.int p2)] [(.int (1 : Int32)), (.int p1)])
          refine Goes.go (fun _ => XS.iadd S.here B.x rfl (B.d d_method_2_47) rfl) ?_
          show Goes _ _ _ _ T (mkF me_ 48 #[.val (.ref a0), .val (.int p1), .val (.int p2)] [(.int (p1 + (1 : Int32)))])
          refine Goes.retI S B d_method_2_48 (by decide) (by decide) ?_
          exact ⟨_, _, rfl, K, A_a0, Or.inr ⟨(fun q => by rcases q with ⟨a, b⟩ | ⟨a, b⟩ | ⟨a, b⟩ <;> first | exact absurd a (by assumption) | exact absurd b (by assumption)), rfl, rfl⟩⟩
      · skip
        refine Goes.go (fun _ => XS.icmpYes S.here B.x rfl (pc0 := 29) (pc' := 41) rfl (B.d d_method_2_29) rfl (flt hc29).2.2.2 (by decide) (by decide)) ?_
        show Goes _ _ _ _ T (mkF me_ 41 #[.val (.ref a0), .val (.int p1), .val (.int p2)] [])
        refine Goes.go (fun _ => XS.aloadN S.here B.x rfl (B.d d_method_2_41) rfl rfl) ?_
        show Goes _ _ _ _ T (mkF me_ 42 #[.val (.ref a0), .val (.int p1), .val (.int p2)] [(.ref a0)])
        refine Goes.go (fun _ => XS.iloadN S.here B.x rfl (B.d d_method_2_42) rfl) ?_
        show Goes _ _ _ _ T (mkF me_ 43 #[.val (.ref a0), .val (.int p1), .val (.int p2)] [(.int p1), (.ref a0)])
        refine Goes.go (fun _ => XS.iloadN S.here B.x rfl (B.d d_method_2_43) rfl) ?_
        show Goes _ _ _ _ T (mkF me_ 44 #[.val (.ref a0), .val (.int p1), .val (.int p2)] [(.int p2), (.int p1), (.ref a0)])
        refine Goes.iastore S B A_a0 hp hp1 g_a0 d_method_2_44 ?_
        intro T h S W A_a0
        replace K := K.wr W (Or.inl (by simp))
        replace A_a0 : Ary Z h a0 .int 4 (aup (fun i => (.int (f i))) p1.toNatClampNeg (.int p2)) := A_a0
        rw [aup_int] at A_a0
        show Goes _ _ _ _ T (mkF me_ 45 #[.val (.ref a0), .val (.int p1), .val (.int p2)] [])
        refine Goes.go (fun _ => XS.iloadN S.here B.x rfl (B.d d_method_2_45) rfl) ?_
        show Goes _ _ _ _ T (mkF me_ 46 #[.val (.ref a0), .val (.int p1), .val (.int p2)] [(.int p1)])
        refine Goes.go (fun _ => XS.iconst S.here B.x rfl (B.d d_method_2_46)) ?_
        show Goes _ _ _ _ T (mkF me_ 47 #[.val (.ref a0), .val (.int p1), .val (.int p2)] [(.int (1 : Int32)), (.int p1)])
        refine Goes.go (fun _ => XS.iadd S.here B.x rfl (B.d d_method_2_47) rfl) ?_
        show Goes _ _ _ _ T (mkF me_ 48 #[.val (.ref a0), .val (.int p1), .val (.int p2)] [(.int (p1 + (1 : Int32)))])
        refine Goes.retI S B d_method_2_48 (by decide) (by decide) ?_
        exact ⟨_, _, rfl, K, A_a0, Or.inr ⟨(fun q => by rcases q with ⟨a, b⟩ | ⟨a, b⟩ | ⟨a, b⟩ <;> first | exact absurd a (by assumption) | exact absurd b (by assumption)), rfl, rfl⟩⟩
theorem ef_rm0 (m : MethodId) (p0 : Int32) (p1 : Int32) (p2 : Int32) (p3 : Int32) : entryFrame m #[(.int p0), (.int p1), (.int p2), (.int p3)] maxLocals = mkF m 0 #[.val (.int p0), .val (.int p1), .val (.int p2), .val (.int p3), .unset, .unset, .unset, .unset, .unset, .unset, .unset, .unset] [] := by first | (simp [entryFrame, mkF, argsToLocals, Value.category, maxLocals]; done) | rfl
def Q_rm0 (Z : State) (p0 : Int32) (p1 : Int32) (p2 : Int32) (p3 : Int32) (h0 : Heap) (n0 : Nat) (v : Option Value) (h : Heap) : Prop := v = some (.int 1)
set_option maxRecDepth 65536 in
set_option maxHeartbeats 40000000 in
theorem rm0 (l : Launch) (Z : State) (aw : Array Value) (hw : ∀ d ∈ tables_1, d.before aw Z = true) (p0 : Int32) (p1 : Int32) (p2 : Int32) (p3 : Int32) (h0 : Heap) (n0 : Nat) :
    Con l Z x code maxLocals ret room_1 #[(.int p0), (.int p1), (.int p2), (.int p3)] h0 n0 (Q_rm0 Z p0 p1 p2 p3 h0 n0) := by
  refine Con.body (plainFor_of_name pn_1) ?_
  intro pr_ en_ st_ me_ below meth co_ T B S
  refine Goes.cast (ef_rm0 me_ p0 p1 p2 p3) ?_
  refine Goes.go (fun _ => XS.iloadN S.here B.x rfl (B.d at_0) rfl) ?_
  show Goes _ _ _ _ T (mkF me_ 1 #[.val (.int p0), .val (.int p1), .val (.int p2), .val (.int p3), .unset, .unset, .unset, .unset, .unset, .unset, .unset, .unset] [(.int p0)])
  refine Goes.go (fun _ => XS.iconst S.here B.x rfl (B.d at_1)) ?_
  show Goes _ _ _ _ T (mkF me_ 2 #[.val (.int p0), .val (.int p1), .val (.int p2), .val (.int p3), .unset, .unset, .unset, .unset, .unset, .unset, .unset, .unset] [(.int (3 : Int32)), (.int p0)])
  refine Goes.go (fun _ => XS.iand S.here B.x rfl (B.d at_2) rfl) ?_
  show Goes _ _ _ _ T (mkF me_ 3 #[.val (.int p0), .val (.int p1), .val (.int p2), .val (.int p3), .unset, .unset, .unset, .unset, .unset, .unset, .unset, .unset] [(.int (p0 &&& (3 : Int32)))])
  refine Goes.go (fun _ => XS.istore S.here B.x rfl (B.d at_3) rfl (l' := #[.val (.int p0), .val (.int p1), .val (.int p2), .val (.int p3), .val (.int (p0 &&& (3 : Int32))), .unset, .unset, .unset, .unset, .unset, .unset, .unset]) rfl) ?_
  show Goes _ _ _ _ T (mkF me_ 5 #[.val (.int p0), .val (.int p1), .val (.int p2), .val (.int p3), .val (.int (p0 &&& (3 : Int32))), .unset, .unset, .unset, .unset, .unset, .unset, .unset] [])
  refine Goes.go (fun _ => XS.iloadN S.here B.x rfl (B.d at_5) rfl) ?_
  show Goes _ _ _ _ T (mkF me_ 6 #[.val (.int p0), .val (.int p1), .val (.int p2), .val (.int p3), .val (.int (p0 &&& (3 : Int32))), .unset, .unset, .unset, .unset, .unset, .unset, .unset] [(.int p1)])
  refine Goes.go (fun _ => XS.iconst S.here B.x rfl (B.d at_6)) ?_
  show Goes _ _ _ _ T (mkF me_ 7 #[.val (.int p0), .val (.int p1), .val (.int p2), .val (.int p3), .val (.int (p0 &&& (3 : Int32))), .unset, .unset, .unset, .unset, .unset, .unset, .unset] [(.int (3 : Int32)), (.int p1)])
  refine Goes.go (fun _ => XS.iand S.here B.x rfl (B.d at_7) rfl) ?_
  show Goes _ _ _ _ T (mkF me_ 8 #[.val (.int p0), .val (.int p1), .val (.int p2), .val (.int p3), .val (.int (p0 &&& (3 : Int32))), .unset, .unset, .unset, .unset, .unset, .unset, .unset] [(.int (p1 &&& (3 : Int32)))])
  refine Goes.go (fun _ => XS.istore S.here B.x rfl (B.d at_8) rfl (l' := #[.val (.int p0), .val (.int p1), .val (.int p2), .val (.int p3), .val (.int (p0 &&& (3 : Int32))), .val (.int (p1 &&& (3 : Int32))), .unset, .unset, .unset, .unset, .unset, .unset]) rfl) ?_
  show Goes _ _ _ _ T (mkF me_ 10 #[.val (.int p0), .val (.int p1), .val (.int p2), .val (.int p3), .val (.int (p0 &&& (3 : Int32))), .val (.int (p1 &&& (3 : Int32))), .unset, .unset, .unset, .unset, .unset, .unset] [])
  refine Goes.go (fun _ => XS.iloadN S.here B.x rfl (B.d at_10) rfl) ?_
  show Goes _ _ _ _ T (mkF me_ 11 #[.val (.int p0), .val (.int p1), .val (.int p2), .val (.int p3), .val (.int (p0 &&& (3 : Int32))), .val (.int (p1 &&& (3 : Int32))), .unset, .unset, .unset, .unset, .unset, .unset] [(.int p2)])
  refine Goes.go (fun _ => XS.iconst S.here B.x rfl (B.d at_11)) ?_
  show Goes _ _ _ _ T (mkF me_ 12 #[.val (.int p0), .val (.int p1), .val (.int p2), .val (.int p3), .val (.int (p0 &&& (3 : Int32))), .val (.int (p1 &&& (3 : Int32))), .unset, .unset, .unset, .unset, .unset, .unset] [(.int (3 : Int32)), (.int p2)])
  refine Goes.go (fun _ => XS.iand S.here B.x rfl (B.d at_12) rfl) ?_
  show Goes _ _ _ _ T (mkF me_ 13 #[.val (.int p0), .val (.int p1), .val (.int p2), .val (.int p3), .val (.int (p0 &&& (3 : Int32))), .val (.int (p1 &&& (3 : Int32))), .unset, .unset, .unset, .unset, .unset, .unset] [(.int (p2 &&& (3 : Int32)))])
  refine Goes.go (fun _ => XS.istore S.here B.x rfl (B.d at_13) rfl (l' := #[.val (.int p0), .val (.int p1), .val (.int p2), .val (.int p3), .val (.int (p0 &&& (3 : Int32))), .val (.int (p1 &&& (3 : Int32))), .val (.int (p2 &&& (3 : Int32))), .unset, .unset, .unset, .unset, .unset]) rfl) ?_
  show Goes _ _ _ _ T (mkF me_ 15 #[.val (.int p0), .val (.int p1), .val (.int p2), .val (.int p3), .val (.int (p0 &&& (3 : Int32))), .val (.int (p1 &&& (3 : Int32))), .val (.int (p2 &&& (3 : Int32))), .unset, .unset, .unset, .unset, .unset] [])
  refine Goes.go (fun _ => XS.iloadN S.here B.x rfl (B.d at_15) rfl) ?_
  show Goes _ _ _ _ T (mkF me_ 16 #[.val (.int p0), .val (.int p1), .val (.int p2), .val (.int p3), .val (.int (p0 &&& (3 : Int32))), .val (.int (p1 &&& (3 : Int32))), .val (.int (p2 &&& (3 : Int32))), .unset, .unset, .unset, .unset, .unset] [(.int p3)])
  refine Goes.go (fun _ => XS.iconst S.here B.x rfl (B.d at_16)) ?_
  show Goes _ _ _ _ T (mkF me_ 17 #[.val (.int p0), .val (.int p1), .val (.int p2), .val (.int p3), .val (.int (p0 &&& (3 : Int32))), .val (.int (p1 &&& (3 : Int32))), .val (.int (p2 &&& (3 : Int32))), .unset, .unset, .unset, .unset, .unset] [(.int (3 : Int32)), (.int p3)])
  refine Goes.go (fun _ => XS.iand S.here B.x rfl (B.d at_17) rfl) ?_
  show Goes _ _ _ _ T (mkF me_ 18 #[.val (.int p0), .val (.int p1), .val (.int p2), .val (.int p3), .val (.int (p0 &&& (3 : Int32))), .val (.int (p1 &&& (3 : Int32))), .val (.int (p2 &&& (3 : Int32))), .unset, .unset, .unset, .unset, .unset] [(.int (p3 &&& (3 : Int32)))])
  refine Goes.go (fun _ => XS.istore S.here B.x rfl (B.d at_18) rfl (l' := #[.val (.int p0), .val (.int p1), .val (.int p2), .val (.int p3), .val (.int (p0 &&& (3 : Int32))), .val (.int (p1 &&& (3 : Int32))), .val (.int (p2 &&& (3 : Int32))), .val (.int (p3 &&& (3 : Int32))), .unset, .unset, .unset, .unset]) rfl) ?_
  show Goes _ _ _ _ T (mkF me_ 20 #[.val (.int p0), .val (.int p1), .val (.int p2), .val (.int p3), .val (.int (p0 &&& (3 : Int32))), .val (.int (p1 &&& (3 : Int32))), .val (.int (p2 &&& (3 : Int32))), .val (.int (p3 &&& (3 : Int32))), .unset, .unset, .unset, .unset] [])
  refine Goes.go (fun _ => XS.iconst S.here B.x rfl (B.d at_20)) ?_
  show Goes _ _ _ _ T (mkF me_ 21 #[.val (.int p0), .val (.int p1), .val (.int p2), .val (.int p3), .val (.int (p0 &&& (3 : Int32))), .val (.int (p1 &&& (3 : Int32))), .val (.int (p2 &&& (3 : Int32))), .val (.int (p3 &&& (3 : Int32))), .unset, .unset, .unset, .unset] [(.int (4 : Int32))])
  refine Goes.newP (aty := .int) (cap := 4) S B (w0 hw) at_21 (by decide) (by decide) (by decide) (by decide) (by decide) ?_
  intro T h b1 S X zb g_b1 A_b1
  replace A_b1 : Ary Z h b1 .int 4 (fun _ => (.int 0)) := A_b1
  show Goes _ _ _ _ T (mkF me_ 23 #[.val (.int p0), .val (.int p1), .val (.int p2), .val (.int p3), .val (.int (p0 &&& (3 : Int32))), .val (.int (p1 &&& (3 : Int32))), .val (.int (p2 &&& (3 : Int32))), .val (.int (p3 &&& (3 : Int32))), .unset, .unset, .unset, .unset] [(.ref b1)])
  refine Goes.go (fun _ => XS.astore S.here B.x rfl (B.d at_23) rfl rfl (l' := #[.val (.int p0), .val (.int p1), .val (.int p2), .val (.int p3), .val (.int (p0 &&& (3 : Int32))), .val (.int (p1 &&& (3 : Int32))), .val (.int (p2 &&& (3 : Int32))), .val (.int (p3 &&& (3 : Int32))), .val (.ref b1), .unset, .unset, .unset]) rfl) ?_
  show Goes _ _ _ _ T (mkF me_ 25 #[.val (.int p0), .val (.int p1), .val (.int p2), .val (.int p3), .val (.int (p0 &&& (3 : Int32))), .val (.int (p1 &&& (3 : Int32))), .val (.int (p2 &&& (3 : Int32))), .val (.int (p3 &&& (3 : Int32))), .val (.ref b1), .unset, .unset, .unset] [])
  refine Goes.go (fun _ => XS.iconst S.here B.x rfl (B.d at_25)) ?_
  show Goes _ _ _ _ T (mkF me_ 26 #[.val (.int p0), .val (.int p1), .val (.int p2), .val (.int p3), .val (.int (p0 &&& (3 : Int32))), .val (.int (p1 &&& (3 : Int32))), .val (.int (p2 &&& (3 : Int32))), .val (.int (p3 &&& (3 : Int32))), .val (.ref b1), .unset, .unset, .unset] [(.int (0 : Int32))])
  refine Goes.go (fun _ => XS.istore S.here B.x rfl (B.d at_26) rfl (l' := #[.val (.int p0), .val (.int p1), .val (.int p2), .val (.int p3), .val (.int (p0 &&& (3 : Int32))), .val (.int (p1 &&& (3 : Int32))), .val (.int (p2 &&& (3 : Int32))), .val (.int (p3 &&& (3 : Int32))), .val (.ref b1), .val (.int (0 : Int32)), .unset, .unset]) rfl) ?_
  show Goes _ _ _ _ T (mkF me_ 28 #[.val (.int p0), .val (.int p1), .val (.int p2), .val (.int p3), .val (.int (p0 &&& (3 : Int32))), .val (.int (p1 &&& (3 : Int32))), .val (.int (p2 &&& (3 : Int32))), .val (.int (p3 &&& (3 : Int32))), .val (.ref b1), .val (.int (0 : Int32)), .unset, .unset] [])
  refine Goes.newO S B (w1 hw) (w2 hw) (w3 hw) at_28 (by decide) (by decide) ?_
  intro T h b2 S X zb g_b2 E_b2 D
  have ne_b1__b2 : b1 ≠ b2 := Nat.ne_of_lt (Nat.lt_of_lt_of_le A_b1.lt (Nat.le_of_eq zb.symm))
  replace A_b1 := A_b1.ext X
  have F_b2_items : Fld Z h b2 "com/example/holdfast/holdfast/IndexStack" "items" "[I" .null := D (Or.inr (w11 hw)) (ty := (.array .int)) (by decide)
  have F_b2_held : Fld Z h b2 "com/example/holdfast/holdfast/IndexStack" "held" "[Z" .null := D (Or.inr (w14 hw)) (ty := (.array .boolean)) (by decide)
  have F_b2_count : Fld Z h b2 "com/example/holdfast/holdfast/IndexStack" "count" "I" (.int (0 : Int32)) := D (Or.inl (w21 hw)) (ty := .int) (by decide)
  show Goes _ _ _ _ T (mkF me_ 31 #[.val (.int p0), .val (.int p1), .val (.int p2), .val (.int p3), .val (.int (p0 &&& (3 : Int32))), .val (.int (p1 &&& (3 : Int32))), .val (.int (p2 &&& (3 : Int32))), .val (.int (p3 &&& (3 : Int32))), .val (.ref b1), .val (.int (0 : Int32)), .unset, .unset] [(.ref b2)])
  refine Goes.go (fun _ => XS.dup S.here B.x rfl (B.d at_31) rfl rfl) ?_
  show Goes _ _ _ _ T (mkF me_ 32 #[.val (.int p0), .val (.int p1), .val (.int p2), .val (.int p3), .val (.int (p0 &&& (3 : Int32))), .val (.int (p1 &&& (3 : Int32))), .val (.int (p2 &&& (3 : Int32))), .val (.int (p3 &&& (3 : Int32))), .val (.ref b1), .val (.int (0 : Int32)), .unset, .unset] [(.ref b2), (.ref b2)])
  refine Goes.go (fun _ => XS.iconst S.here B.x rfl (B.d at_32)) ?_
  show Goes _ _ _ _ T (mkF me_ 33 #[.val (.int p0), .val (.int p1), .val (.int p2), .val (.int p3), .val (.int (p0 &&& (3 : Int32))), .val (.int (p1 &&& (3 : Int32))), .val (.int (p2 &&& (3 : Int32))), .val (.int (p3 &&& (3 : Int32))), .val (.ref b1), .val (.int (0 : Int32)), .unset, .unset] [(.int (4 : Int32)), (.ref b2), (.ref b2)])
  have zle := S.le
  refine Goes.callI (argsL := [(.int (4 : Int32))]) (rest := [(.ref b2)]) (W := 1) S B (rmI l Z aw hw b2 (4 : Int32) _ n0 E_b2 F_b2_items F_b2_held F_b2_count g_b2 (by decide) (by decide)) (w4 hw) (w5 hw) (w3 hw) (w6 hw) (by decide) rfl (by decide) (by decide) (by decide) (by decide) rfl (lenOf pd_0 rfl) rfl (Nat.le_of_eq rfl) at_33 ?_
  intro v T h S hQ
  obtain ⟨b3, b4, rfl, zb_b3, zb_b4, ne_b3__b4, Kc, E_b2', F_b2_items', F_b2_held', F_b2_count', A_b3', A_b4'⟩ := hQ
  have ne_b1__b3 : b1 ≠ b3 := Nat.ne_of_lt (Nat.lt_of_lt_of_le A_b1.lt zb_b3)
  have ne_b2__b3 : b2 ≠ b3 := Nat.ne_of_lt (Nat.lt_of_lt_of_le E_b2.lt zb_b3)
  have g_b3 : n0 ≤ b3 := Nat.le_trans zle zb_b3
  have ne_b1__b4 : b1 ≠ b4 := Nat.ne_of_lt (Nat.lt_of_lt_of_le A_b1.lt zb_b4)
  have ne_b2__b4 : b2 ≠ b4 := Nat.ne_of_lt (Nat.lt_of_lt_of_le E_b2.lt zb_b4)
  have g_b4 : n0 ≤ b4 := Nat.le_trans zle zb_b4
  replace A_b1 := A_b1.keep Kc (ninS ne_b1__b2 nin0)
  replace E_b2 := E_b2'
  replace F_b2_items := F_b2_items'
  replace F_b2_held := F_b2_held'
  replace F_b2_count := F_b2_count'
  have A_b3 := A_b3'
  have A_b4 := A_b4'
  show Goes _ _ _ _ T (mkF me_ 36 #[.val (.int p0), .val (.int p1), .val (.int p2), .val (.int p3), .val (.int (p0 &&& (3 : Int32))), .val (.int (p1 &&& (3 : Int32))), .val (.int (p2 &&& (3 : Int32))), .val (.int (p3 &&& (3 : Int32))), .val (.ref b1), .val (.int (0 : Int32)), .unset, .unset] [(.ref b2)])
  refine Goes.go (fun _ => XS.astore S.here B.x rfl (B.d at_36) rfl rfl (l' := #[.val (.int p0), .val (.int p1), .val (.int p2), .val (.int p3), .val (.int (p0 &&& (3 : Int32))), .val (.int (p1 &&& (3 : Int32))), .val (.int (p2 &&& (3 : Int32))), .val (.int (p3 &&& (3 : Int32))), .val (.ref b1), .val (.int (0 : Int32)), .val (.ref b2), .unset]) rfl) ?_
  show Goes _ _ _ _ T (mkF me_ 38 #[.val (.int p0), .val (.int p1), .val (.int p2), .val (.int p3), .val (.int (p0 &&& (3 : Int32))), .val (.int (p1 &&& (3 : Int32))), .val (.int (p2 &&& (3 : Int32))), .val (.int (p3 &&& (3 : Int32))), .val (.ref b1), .val (.int (0 : Int32)), .val (.ref b2), .unset] [])
  have hI0 : own_Inv 0 (0 : Int32) (fun _ => 0) (fun _ => 0) (fun _ => 0) := own_inv0
  refine Goes.go (fun _ => XS.aload S.here B.x rfl (B.d at_38) rfl rfl) ?_
  show Goes _ _ _ _ T (mkF me_ 40 #[.val (.int p0), .val (.int p1), .val (.int p2), .val (.int p3), .val (.int (p0 &&& (3 : Int32))), .val (.int (p1 &&& (3 : Int32))), .val (.int (p2 &&& (3 : Int32))), .val (.int (p3 &&& (3 : Int32))), .val (.ref b1), .val (.int (0 : Int32)), .val (.ref b2), .unset] [(.ref b2)])
  refine Goes.go (fun _ => XS.iload S.here B.x rfl (B.d at_40) rfl) ?_
  show Goes _ _ _ _ T (mkF me_ 42 #[.val (.int p0), .val (.int p1), .val (.int p2), .val (.int p3), .val (.int (p0 &&& (3 : Int32))), .val (.int (p1 &&& (3 : Int32))), .val (.int (p2 &&& (3 : Int32))), .val (.int (p3 &&& (3 : Int32))), .val (.ref b1), .val (.int (0 : Int32)), .val (.ref b2), .unset] [(.int (p0 &&& (3 : Int32))), (.ref b2)])
  refine Goes.callV (argsL := [(.int (p0 &&& (3 : Int32)))]) (rest := []) (W := 0) S B (rm_add l Z aw hw b2 (p0 &&& (3 : Int32)) b3 b4 (4 : Int32).toNatClampNeg (fun _ => 0) (fun _ => 0) (0 : Int32) _ n0 E_b2 F_b2_items F_b2_held F_b2_count A_b3 A_b4 g_b2 g_b3 g_b4 ne_b2__b3 ne_b2__b4 ne_b3__b4 (own_m p0).1 (own_m p0).2 (own_c hI0).1 (fun _ => (own_c hI0).2)) E_b2 (w15 hw) (w16 hw) (w18 hw) (w17 hw) (w3 hw) (w19 hw) (by decide) (by decide) (by decide) (by decide) (by decide) rfl (lenOf pd_0 rfl) rfl (Nat.le_of_eq rfl) at_42 ?_
  intro v T h S hQ
  obtain ⟨u5, u6, u7, rfl, Kc, E_b2', F_b2_items', F_b2_held', F_b2_count', A_b3', A_b4', hr_42⟩ := hQ
  replace A_b1 := A_b1.keep Kc (ninS ne_b1__b2 (ninS ne_b1__b3 (ninS ne_b1__b4 nin0)))
  replace E_b2 := E_b2'
  replace F_b2_items := F_b2_items'
  replace F_b2_held := F_b2_held'
  replace F_b2_count := F_b2_count'
  replace A_b3 := A_b3'
  replace A_b4 := A_b4'
  show Goes _ _ _ _ T (mkF me_ 45 #[.val (.int p0), .val (.int p1), .val (.int p2), .val (.int p3), .val (.int (p0 &&& (3 : Int32))), .val (.int (p1 &&& (3 : Int32))), .val (.int (p2 &&& (3 : Int32))), .val (.int (p3 &&& (3 : Int32))), .val (.ref b1), .val (.int (0 : Int32)), .val (.ref b2), .unset] [])
  refine Goes.go (fun _ => XS.aload S.here B.x rfl (B.d at_45) rfl rfl) ?_
  show Goes _ _ _ _ T (mkF me_ 47 #[.val (.int p0), .val (.int p1), .val (.int p2), .val (.int p3), .val (.int (p0 &&& (3 : Int32))), .val (.int (p1 &&& (3 : Int32))), .val (.int (p2 &&& (3 : Int32))), .val (.int (p3 &&& (3 : Int32))), .val (.ref b1), .val (.int (0 : Int32)), .val (.ref b2), .unset] [(.ref b1)])
  refine Goes.go (fun _ => XS.iload S.here B.x rfl (B.d at_47) rfl) ?_
  show Goes _ _ _ _ T (mkF me_ 49 #[.val (.int p0), .val (.int p1), .val (.int p2), .val (.int p3), .val (.int (p0 &&& (3 : Int32))), .val (.int (p1 &&& (3 : Int32))), .val (.int (p2 &&& (3 : Int32))), .val (.int (p3 &&& (3 : Int32))), .val (.ref b1), .val (.int (0 : Int32)), .val (.ref b2), .unset] [(.int (0 : Int32)), (.ref b1)])
  refine Goes.go (fun _ => XS.iload S.here B.x rfl (B.d at_49) rfl) ?_
  show Goes _ _ _ _ T (mkF me_ 51 #[.val (.int p0), .val (.int p1), .val (.int p2), .val (.int p3), .val (.int (p0 &&& (3 : Int32))), .val (.int (p1 &&& (3 : Int32))), .val (.int (p2 &&& (3 : Int32))), .val (.int (p3 &&& (3 : Int32))), .val (.ref b1), .val (.int (0 : Int32)), .val (.ref b2), .unset] [(.int (p0 &&& (3 : Int32))), (.int (0 : Int32)), (.ref b1)])
  refine Goes.callS (argsL := [(.ref b1), (.int (0 : Int32)), (.int (p0 &&& (3 : Int32)))]) (rest := []) (W := 0) S B (rm_push l Z aw hw b1 (0 : Int32) (p0 &&& (3 : Int32)) (fun _ => 0) _ n0 A_b1 g_b1 (own_c hI0).1 (own_c hI0).2) (w22 hw) (w23 hw) (w24 hw) (w25 hw) (by decide) (by decide) (by decide) (by decide) (by decide) rfl (lenOf pd_1 rfl) rfl (Nat.le_of_eq rfl) at_51 ?_
  intro v T h S hQ
  obtain ⟨u8, u9, rfl, Kc, A_b1', hr_51⟩ := hQ
  replace E_b2 := E_b2.keep Kc
  replace F_b2_items := F_b2_items.keep Kc (ninS ne_b1__b2.symm nin0)
  replace F_b2_held := F_b2_held.keep Kc (ninS ne_b1__b2.symm nin0)
  replace F_b2_count := F_b2_count.keep Kc (ninS ne_b1__b2.symm nin0)
  replace A_b3 := A_b3.keep Kc (ninS ne_b1__b3.symm nin0)
  replace A_b4 := A_b4.keep Kc (ninS ne_b1__b4.symm nin0)
  replace A_b1 := A_b1'
  show Goes _ _ _ _ T (mkF me_ 54 #[.val (.int p0), .val (.int p1), .val (.int p2), .val (.int p3), .val (.int (p0 &&& (3 : Int32))), .val (.int (p1 &&& (3 : Int32))), .val (.int (p2 &&& (3 : Int32))), .val (.int (p3 &&& (3 : Int32))), .val (.ref b1), .val (.int (0 : Int32)), .val (.ref b2), .unset] [(.int u9)])
  obtain ⟨hcr, hI1⟩ := own_step hI0 (own_m p0) hr_42 hr_51
  subst hcr
  show Goes _ _ _ _ T (mkF me_ 54 #[.val (.int p0), .val (.int p1), .val (.int p2), .val (.int p3), .val (.int (p0 &&& (3 : Int32))), .val (.int (p1 &&& (3 : Int32))), .val (.int (p2 &&& (3 : Int32))), .val (.int (p3 &&& (3 : Int32))), .val (.ref b1), .val (.int (0 : Int32)), .val (.ref b2), .unset] [(.int u7)])
  refine Goes.go (fun _ => XS.istore S.here B.x rfl (B.d at_54) rfl (l' := #[.val (.int p0), .val (.int p1), .val (.int p2), .val (.int p3), .val (.int (p0 &&& (3 : Int32))), .val (.int (p1 &&& (3 : Int32))), .val (.int (p2 &&& (3 : Int32))), .val (.int (p3 &&& (3 : Int32))), .val (.ref b1), .val (.int u7), .val (.ref b2), .unset]) rfl) ?_
  show Goes _ _ _ _ T (mkF me_ 56 #[.val (.int p0), .val (.int p1), .val (.int p2), .val (.int p3), .val (.int (p0 &&& (3 : Int32))), .val (.int (p1 &&& (3 : Int32))), .val (.int (p2 &&& (3 : Int32))), .val (.int (p3 &&& (3 : Int32))), .val (.ref b1), .val (.int u7), .val (.ref b2), .unset] [])
  refine Goes.go (fun _ => XS.aload S.here B.x rfl (B.d at_56) rfl rfl) ?_
  show Goes _ _ _ _ T (mkF me_ 58 #[.val (.int p0), .val (.int p1), .val (.int p2), .val (.int p3), .val (.int (p0 &&& (3 : Int32))), .val (.int (p1 &&& (3 : Int32))), .val (.int (p2 &&& (3 : Int32))), .val (.int (p3 &&& (3 : Int32))), .val (.ref b1), .val (.int u7), .val (.ref b2), .unset] [(.ref b2)])
  refine Goes.go (fun _ => XS.iload S.here B.x rfl (B.d at_58) rfl) ?_
  show Goes _ _ _ _ T (mkF me_ 60 #[.val (.int p0), .val (.int p1), .val (.int p2), .val (.int p3), .val (.int (p0 &&& (3 : Int32))), .val (.int (p1 &&& (3 : Int32))), .val (.int (p2 &&& (3 : Int32))), .val (.int (p3 &&& (3 : Int32))), .val (.ref b1), .val (.int u7), .val (.ref b2), .unset] [(.int (p1 &&& (3 : Int32))), (.ref b2)])
  refine Goes.callV (argsL := [(.int (p1 &&& (3 : Int32)))]) (rest := []) (W := 0) S B (rm_add l Z aw hw b2 (p1 &&& (3 : Int32)) b3 b4 (4 : Int32).toNatClampNeg u5 u6 u7 _ n0 E_b2 F_b2_items F_b2_held F_b2_count A_b3 A_b4 g_b2 g_b3 g_b4 ne_b2__b3 ne_b2__b4 ne_b3__b4 (own_m p1).1 (own_m p1).2 (own_c hI1).1 (fun _ => (own_c hI1).2)) E_b2 (w15 hw) (w16 hw) (w18 hw) (w17 hw) (w3 hw) (w19 hw) (by decide) (by decide) (by decide) (by decide) (by decide) rfl (lenOf pd_0 rfl) rfl (Nat.le_of_eq rfl) at_60 ?_
  intro v T h S hQ
  obtain ⟨u10, u11, u12, rfl, Kc, E_b2', F_b2_items', F_b2_held', F_b2_count', A_b3', A_b4', hr_60⟩ := hQ
  replace A_b1 := A_b1.keep Kc (ninS ne_b1__b2 (ninS ne_b1__b3 (ninS ne_b1__b4 nin0)))
  replace E_b2 := E_b2'
  replace F_b2_items := F_b2_items'
  replace F_b2_held := F_b2_held'
  replace F_b2_count := F_b2_count'
  replace A_b3 := A_b3'
  replace A_b4 := A_b4'
  show Goes _ _ _ _ T (mkF me_ 63 #[.val (.int p0), .val (.int p1), .val (.int p2), .val (.int p3), .val (.int (p0 &&& (3 : Int32))), .val (.int (p1 &&& (3 : Int32))), .val (.int (p2 &&& (3 : Int32))), .val (.int (p3 &&& (3 : Int32))), .val (.ref b1), .val (.int u7), .val (.ref b2), .unset] [])
  refine Goes.go (fun _ => XS.aload S.here B.x rfl (B.d at_63) rfl rfl) ?_
  show Goes _ _ _ _ T (mkF me_ 65 #[.val (.int p0), .val (.int p1), .val (.int p2), .val (.int p3), .val (.int (p0 &&& (3 : Int32))), .val (.int (p1 &&& (3 : Int32))), .val (.int (p2 &&& (3 : Int32))), .val (.int (p3 &&& (3 : Int32))), .val (.ref b1), .val (.int u7), .val (.ref b2), .unset] [(.ref b1)])
  refine Goes.go (fun _ => XS.iload S.here B.x rfl (B.d at_65) rfl) ?_
  show Goes _ _ _ _ T (mkF me_ 67 #[.val (.int p0), .val (.int p1), .val (.int p2), .val (.int p3), .val (.int (p0 &&& (3 : Int32))), .val (.int (p1 &&& (3 : Int32))), .val (.int (p2 &&& (3 : Int32))), .val (.int (p3 &&& (3 : Int32))), .val (.ref b1), .val (.int u7), .val (.ref b2), .unset] [(.int u7), (.ref b1)])
  refine Goes.go (fun _ => XS.iload S.here B.x rfl (B.d at_67) rfl) ?_
  show Goes _ _ _ _ T (mkF me_ 69 #[.val (.int p0), .val (.int p1), .val (.int p2), .val (.int p3), .val (.int (p0 &&& (3 : Int32))), .val (.int (p1 &&& (3 : Int32))), .val (.int (p2 &&& (3 : Int32))), .val (.int (p3 &&& (3 : Int32))), .val (.ref b1), .val (.int u7), .val (.ref b2), .unset] [(.int (p1 &&& (3 : Int32))), (.int u7), (.ref b1)])
  refine Goes.callS (argsL := [(.ref b1), (.int u7), (.int (p1 &&& (3 : Int32)))]) (rest := []) (W := 0) S B (rm_push l Z aw hw b1 u7 (p1 &&& (3 : Int32)) u8 _ n0 A_b1 g_b1 (own_c hI1).1 (own_c hI1).2) (w22 hw) (w23 hw) (w24 hw) (w25 hw) (by decide) (by decide) (by decide) (by decide) (by decide) rfl (lenOf pd_1 rfl) rfl (Nat.le_of_eq rfl) at_69 ?_
  intro v T h S hQ
  obtain ⟨u13, u14, rfl, Kc, A_b1', hr_69⟩ := hQ
  replace E_b2 := E_b2.keep Kc
  replace F_b2_items := F_b2_items.keep Kc (ninS ne_b1__b2.symm nin0)
  replace F_b2_held := F_b2_held.keep Kc (ninS ne_b1__b2.symm nin0)
  replace F_b2_count := F_b2_count.keep Kc (ninS ne_b1__b2.symm nin0)
  replace A_b3 := A_b3.keep Kc (ninS ne_b1__b3.symm nin0)
  replace A_b4 := A_b4.keep Kc (ninS ne_b1__b4.symm nin0)
  replace A_b1 := A_b1'
  show Goes _ _ _ _ T (mkF me_ 72 #[.val (.int p0), .val (.int p1), .val (.int p2), .val (.int p3), .val (.int (p0 &&& (3 : Int32))), .val (.int (p1 &&& (3 : Int32))), .val (.int (p2 &&& (3 : Int32))), .val (.int (p3 &&& (3 : Int32))), .val (.ref b1), .val (.int u7), .val (.ref b2), .unset] [(.int u14)])
  obtain ⟨hcr, hI2⟩ := own_step hI1 (own_m p1) hr_60 hr_69
  subst hcr
  show Goes _ _ _ _ T (mkF me_ 72 #[.val (.int p0), .val (.int p1), .val (.int p2), .val (.int p3), .val (.int (p0 &&& (3 : Int32))), .val (.int (p1 &&& (3 : Int32))), .val (.int (p2 &&& (3 : Int32))), .val (.int (p3 &&& (3 : Int32))), .val (.ref b1), .val (.int u7), .val (.ref b2), .unset] [(.int u12)])
  refine Goes.go (fun _ => XS.istore S.here B.x rfl (B.d at_72) rfl (l' := #[.val (.int p0), .val (.int p1), .val (.int p2), .val (.int p3), .val (.int (p0 &&& (3 : Int32))), .val (.int (p1 &&& (3 : Int32))), .val (.int (p2 &&& (3 : Int32))), .val (.int (p3 &&& (3 : Int32))), .val (.ref b1), .val (.int u12), .val (.ref b2), .unset]) rfl) ?_
  show Goes _ _ _ _ T (mkF me_ 74 #[.val (.int p0), .val (.int p1), .val (.int p2), .val (.int p3), .val (.int (p0 &&& (3 : Int32))), .val (.int (p1 &&& (3 : Int32))), .val (.int (p2 &&& (3 : Int32))), .val (.int (p3 &&& (3 : Int32))), .val (.ref b1), .val (.int u12), .val (.ref b2), .unset] [])
  refine Goes.go (fun _ => XS.aload S.here B.x rfl (B.d at_74) rfl rfl) ?_
  show Goes _ _ _ _ T (mkF me_ 76 #[.val (.int p0), .val (.int p1), .val (.int p2), .val (.int p3), .val (.int (p0 &&& (3 : Int32))), .val (.int (p1 &&& (3 : Int32))), .val (.int (p2 &&& (3 : Int32))), .val (.int (p3 &&& (3 : Int32))), .val (.ref b1), .val (.int u12), .val (.ref b2), .unset] [(.ref b2)])
  refine Goes.go (fun _ => XS.iload S.here B.x rfl (B.d at_76) rfl) ?_
  show Goes _ _ _ _ T (mkF me_ 78 #[.val (.int p0), .val (.int p1), .val (.int p2), .val (.int p3), .val (.int (p0 &&& (3 : Int32))), .val (.int (p1 &&& (3 : Int32))), .val (.int (p2 &&& (3 : Int32))), .val (.int (p3 &&& (3 : Int32))), .val (.ref b1), .val (.int u12), .val (.ref b2), .unset] [(.int (p2 &&& (3 : Int32))), (.ref b2)])
  refine Goes.callV (argsL := [(.int (p2 &&& (3 : Int32)))]) (rest := []) (W := 0) S B (rm_add l Z aw hw b2 (p2 &&& (3 : Int32)) b3 b4 (4 : Int32).toNatClampNeg u10 u11 u12 _ n0 E_b2 F_b2_items F_b2_held F_b2_count A_b3 A_b4 g_b2 g_b3 g_b4 ne_b2__b3 ne_b2__b4 ne_b3__b4 (own_m p2).1 (own_m p2).2 (own_c hI2).1 (fun _ => (own_c hI2).2)) E_b2 (w15 hw) (w16 hw) (w18 hw) (w17 hw) (w3 hw) (w19 hw) (by decide) (by decide) (by decide) (by decide) (by decide) rfl (lenOf pd_0 rfl) rfl (Nat.le_of_eq rfl) at_78 ?_
  intro v T h S hQ
  obtain ⟨u15, u16, u17, rfl, Kc, E_b2', F_b2_items', F_b2_held', F_b2_count', A_b3', A_b4', hr_78⟩ := hQ
  replace A_b1 := A_b1.keep Kc (ninS ne_b1__b2 (ninS ne_b1__b3 (ninS ne_b1__b4 nin0)))
  replace E_b2 := E_b2'
  replace F_b2_items := F_b2_items'
  replace F_b2_held := F_b2_held'
  replace F_b2_count := F_b2_count'
  replace A_b3 := A_b3'
  replace A_b4 := A_b4'
  show Goes _ _ _ _ T (mkF me_ 81 #[.val (.int p0), .val (.int p1), .val (.int p2), .val (.int p3), .val (.int (p0 &&& (3 : Int32))), .val (.int (p1 &&& (3 : Int32))), .val (.int (p2 &&& (3 : Int32))), .val (.int (p3 &&& (3 : Int32))), .val (.ref b1), .val (.int u12), .val (.ref b2), .unset] [])
  refine Goes.go (fun _ => XS.aload S.here B.x rfl (B.d at_81) rfl rfl) ?_
  show Goes _ _ _ _ T (mkF me_ 83 #[.val (.int p0), .val (.int p1), .val (.int p2), .val (.int p3), .val (.int (p0 &&& (3 : Int32))), .val (.int (p1 &&& (3 : Int32))), .val (.int (p2 &&& (3 : Int32))), .val (.int (p3 &&& (3 : Int32))), .val (.ref b1), .val (.int u12), .val (.ref b2), .unset] [(.ref b1)])
  refine Goes.go (fun _ => XS.iload S.here B.x rfl (B.d at_83) rfl) ?_
  show Goes _ _ _ _ T (mkF me_ 85 #[.val (.int p0), .val (.int p1), .val (.int p2), .val (.int p3), .val (.int (p0 &&& (3 : Int32))), .val (.int (p1 &&& (3 : Int32))), .val (.int (p2 &&& (3 : Int32))), .val (.int (p3 &&& (3 : Int32))), .val (.ref b1), .val (.int u12), .val (.ref b2), .unset] [(.int u12), (.ref b1)])
  refine Goes.go (fun _ => XS.iload S.here B.x rfl (B.d at_85) rfl) ?_
  show Goes _ _ _ _ T (mkF me_ 87 #[.val (.int p0), .val (.int p1), .val (.int p2), .val (.int p3), .val (.int (p0 &&& (3 : Int32))), .val (.int (p1 &&& (3 : Int32))), .val (.int (p2 &&& (3 : Int32))), .val (.int (p3 &&& (3 : Int32))), .val (.ref b1), .val (.int u12), .val (.ref b2), .unset] [(.int (p2 &&& (3 : Int32))), (.int u12), (.ref b1)])
  refine Goes.callS (argsL := [(.ref b1), (.int u12), (.int (p2 &&& (3 : Int32)))]) (rest := []) (W := 0) S B (rm_push l Z aw hw b1 u12 (p2 &&& (3 : Int32)) u13 _ n0 A_b1 g_b1 (own_c hI2).1 (own_c hI2).2) (w22 hw) (w23 hw) (w24 hw) (w25 hw) (by decide) (by decide) (by decide) (by decide) (by decide) rfl (lenOf pd_1 rfl) rfl (Nat.le_of_eq rfl) at_87 ?_
  intro v T h S hQ
  obtain ⟨u18, u19, rfl, Kc, A_b1', hr_87⟩ := hQ
  replace E_b2 := E_b2.keep Kc
  replace F_b2_items := F_b2_items.keep Kc (ninS ne_b1__b2.symm nin0)
  replace F_b2_held := F_b2_held.keep Kc (ninS ne_b1__b2.symm nin0)
  replace F_b2_count := F_b2_count.keep Kc (ninS ne_b1__b2.symm nin0)
  replace A_b3 := A_b3.keep Kc (ninS ne_b1__b3.symm nin0)
  replace A_b4 := A_b4.keep Kc (ninS ne_b1__b4.symm nin0)
  replace A_b1 := A_b1'
  show Goes _ _ _ _ T (mkF me_ 90 #[.val (.int p0), .val (.int p1), .val (.int p2), .val (.int p3), .val (.int (p0 &&& (3 : Int32))), .val (.int (p1 &&& (3 : Int32))), .val (.int (p2 &&& (3 : Int32))), .val (.int (p3 &&& (3 : Int32))), .val (.ref b1), .val (.int u12), .val (.ref b2), .unset] [(.int u19)])
  obtain ⟨hcr, hI3⟩ := own_step hI2 (own_m p2) hr_78 hr_87
  subst hcr
  show Goes _ _ _ _ T (mkF me_ 90 #[.val (.int p0), .val (.int p1), .val (.int p2), .val (.int p3), .val (.int (p0 &&& (3 : Int32))), .val (.int (p1 &&& (3 : Int32))), .val (.int (p2 &&& (3 : Int32))), .val (.int (p3 &&& (3 : Int32))), .val (.ref b1), .val (.int u12), .val (.ref b2), .unset] [(.int u17)])
  refine Goes.go (fun _ => XS.istore S.here B.x rfl (B.d at_90) rfl (l' := #[.val (.int p0), .val (.int p1), .val (.int p2), .val (.int p3), .val (.int (p0 &&& (3 : Int32))), .val (.int (p1 &&& (3 : Int32))), .val (.int (p2 &&& (3 : Int32))), .val (.int (p3 &&& (3 : Int32))), .val (.ref b1), .val (.int u17), .val (.ref b2), .unset]) rfl) ?_
  show Goes _ _ _ _ T (mkF me_ 92 #[.val (.int p0), .val (.int p1), .val (.int p2), .val (.int p3), .val (.int (p0 &&& (3 : Int32))), .val (.int (p1 &&& (3 : Int32))), .val (.int (p2 &&& (3 : Int32))), .val (.int (p3 &&& (3 : Int32))), .val (.ref b1), .val (.int u17), .val (.ref b2), .unset] [])
  refine Goes.go (fun _ => XS.aload S.here B.x rfl (B.d at_92) rfl rfl) ?_
  show Goes _ _ _ _ T (mkF me_ 94 #[.val (.int p0), .val (.int p1), .val (.int p2), .val (.int p3), .val (.int (p0 &&& (3 : Int32))), .val (.int (p1 &&& (3 : Int32))), .val (.int (p2 &&& (3 : Int32))), .val (.int (p3 &&& (3 : Int32))), .val (.ref b1), .val (.int u17), .val (.ref b2), .unset] [(.ref b2)])
  refine Goes.go (fun _ => XS.iload S.here B.x rfl (B.d at_94) rfl) ?_
  show Goes _ _ _ _ T (mkF me_ 96 #[.val (.int p0), .val (.int p1), .val (.int p2), .val (.int p3), .val (.int (p0 &&& (3 : Int32))), .val (.int (p1 &&& (3 : Int32))), .val (.int (p2 &&& (3 : Int32))), .val (.int (p3 &&& (3 : Int32))), .val (.ref b1), .val (.int u17), .val (.ref b2), .unset] [(.int (p3 &&& (3 : Int32))), (.ref b2)])
  refine Goes.callV (argsL := [(.int (p3 &&& (3 : Int32)))]) (rest := []) (W := 0) S B (rm_add l Z aw hw b2 (p3 &&& (3 : Int32)) b3 b4 (4 : Int32).toNatClampNeg u15 u16 u17 _ n0 E_b2 F_b2_items F_b2_held F_b2_count A_b3 A_b4 g_b2 g_b3 g_b4 ne_b2__b3 ne_b2__b4 ne_b3__b4 (own_m p3).1 (own_m p3).2 (own_c hI3).1 (fun _ => (own_c hI3).2)) E_b2 (w15 hw) (w16 hw) (w18 hw) (w17 hw) (w3 hw) (w19 hw) (by decide) (by decide) (by decide) (by decide) (by decide) rfl (lenOf pd_0 rfl) rfl (Nat.le_of_eq rfl) at_96 ?_
  intro v T h S hQ
  obtain ⟨u20, u21, u22, rfl, Kc, E_b2', F_b2_items', F_b2_held', F_b2_count', A_b3', A_b4', hr_96⟩ := hQ
  replace A_b1 := A_b1.keep Kc (ninS ne_b1__b2 (ninS ne_b1__b3 (ninS ne_b1__b4 nin0)))
  replace E_b2 := E_b2'
  replace F_b2_items := F_b2_items'
  replace F_b2_held := F_b2_held'
  replace F_b2_count := F_b2_count'
  replace A_b3 := A_b3'
  replace A_b4 := A_b4'
  show Goes _ _ _ _ T (mkF me_ 99 #[.val (.int p0), .val (.int p1), .val (.int p2), .val (.int p3), .val (.int (p0 &&& (3 : Int32))), .val (.int (p1 &&& (3 : Int32))), .val (.int (p2 &&& (3 : Int32))), .val (.int (p3 &&& (3 : Int32))), .val (.ref b1), .val (.int u17), .val (.ref b2), .unset] [])
  refine Goes.go (fun _ => XS.aload S.here B.x rfl (B.d at_99) rfl rfl) ?_
  show Goes _ _ _ _ T (mkF me_ 101 #[.val (.int p0), .val (.int p1), .val (.int p2), .val (.int p3), .val (.int (p0 &&& (3 : Int32))), .val (.int (p1 &&& (3 : Int32))), .val (.int (p2 &&& (3 : Int32))), .val (.int (p3 &&& (3 : Int32))), .val (.ref b1), .val (.int u17), .val (.ref b2), .unset] [(.ref b1)])
  refine Goes.go (fun _ => XS.iload S.here B.x rfl (B.d at_101) rfl) ?_
  show Goes _ _ _ _ T (mkF me_ 103 #[.val (.int p0), .val (.int p1), .val (.int p2), .val (.int p3), .val (.int (p0 &&& (3 : Int32))), .val (.int (p1 &&& (3 : Int32))), .val (.int (p2 &&& (3 : Int32))), .val (.int (p3 &&& (3 : Int32))), .val (.ref b1), .val (.int u17), .val (.ref b2), .unset] [(.int u17), (.ref b1)])
  refine Goes.go (fun _ => XS.iload S.here B.x rfl (B.d at_103) rfl) ?_
  show Goes _ _ _ _ T (mkF me_ 105 #[.val (.int p0), .val (.int p1), .val (.int p2), .val (.int p3), .val (.int (p0 &&& (3 : Int32))), .val (.int (p1 &&& (3 : Int32))), .val (.int (p2 &&& (3 : Int32))), .val (.int (p3 &&& (3 : Int32))), .val (.ref b1), .val (.int u17), .val (.ref b2), .unset] [(.int (p3 &&& (3 : Int32))), (.int u17), (.ref b1)])
  refine Goes.callS (argsL := [(.ref b1), (.int u17), (.int (p3 &&& (3 : Int32)))]) (rest := []) (W := 0) S B (rm_push l Z aw hw b1 u17 (p3 &&& (3 : Int32)) u18 _ n0 A_b1 g_b1 (own_c hI3).1 (own_c hI3).2) (w22 hw) (w23 hw) (w24 hw) (w25 hw) (by decide) (by decide) (by decide) (by decide) (by decide) rfl (lenOf pd_1 rfl) rfl (Nat.le_of_eq rfl) at_105 ?_
  intro v T h S hQ
  obtain ⟨u23, u24, rfl, Kc, A_b1', hr_105⟩ := hQ
  replace E_b2 := E_b2.keep Kc
  replace F_b2_items := F_b2_items.keep Kc (ninS ne_b1__b2.symm nin0)
  replace F_b2_held := F_b2_held.keep Kc (ninS ne_b1__b2.symm nin0)
  replace F_b2_count := F_b2_count.keep Kc (ninS ne_b1__b2.symm nin0)
  replace A_b3 := A_b3.keep Kc (ninS ne_b1__b3.symm nin0)
  replace A_b4 := A_b4.keep Kc (ninS ne_b1__b4.symm nin0)
  replace A_b1 := A_b1'
  show Goes _ _ _ _ T (mkF me_ 108 #[.val (.int p0), .val (.int p1), .val (.int p2), .val (.int p3), .val (.int (p0 &&& (3 : Int32))), .val (.int (p1 &&& (3 : Int32))), .val (.int (p2 &&& (3 : Int32))), .val (.int (p3 &&& (3 : Int32))), .val (.ref b1), .val (.int u17), .val (.ref b2), .unset] [(.int u24)])
  obtain ⟨hcr, hI4⟩ := own_step hI3 (own_m p3) hr_96 hr_105
  subst hcr
  show Goes _ _ _ _ T (mkF me_ 108 #[.val (.int p0), .val (.int p1), .val (.int p2), .val (.int p3), .val (.int (p0 &&& (3 : Int32))), .val (.int (p1 &&& (3 : Int32))), .val (.int (p2 &&& (3 : Int32))), .val (.int (p3 &&& (3 : Int32))), .val (.ref b1), .val (.int u17), .val (.ref b2), .unset] [(.int u22)])
  refine Goes.go (fun _ => XS.istore S.here B.x rfl (B.d at_108) rfl (l' := #[.val (.int p0), .val (.int p1), .val (.int p2), .val (.int p3), .val (.int (p0 &&& (3 : Int32))), .val (.int (p1 &&& (3 : Int32))), .val (.int (p2 &&& (3 : Int32))), .val (.int (p3 &&& (3 : Int32))), .val (.ref b1), .val (.int u22), .val (.ref b2), .unset]) rfl) ?_
  show Goes _ _ _ _ T (mkF me_ 110 #[.val (.int p0), .val (.int p1), .val (.int p2), .val (.int p3), .val (.int (p0 &&& (3 : Int32))), .val (.int (p1 &&& (3 : Int32))), .val (.int (p2 &&& (3 : Int32))), .val (.int (p3 &&& (3 : Int32))), .val (.ref b1), .val (.int u22), .val (.ref b2), .unset] [])
  refine Goes.go (fun _ => XS.aload S.here B.x rfl (B.d at_110) rfl rfl) ?_
  show Goes _ _ _ _ T (mkF me_ 112 #[.val (.int p0), .val (.int p1), .val (.int p2), .val (.int p3), .val (.int (p0 &&& (3 : Int32))), .val (.int (p1 &&& (3 : Int32))), .val (.int (p2 &&& (3 : Int32))), .val (.int (p3 &&& (3 : Int32))), .val (.ref b1), .val (.int u22), .val (.ref b2), .unset] [(.ref b2)])
  refine Goes.callV (argsL := []) (rest := []) (W := 0) S B (rm_size l Z aw hw b2 u22 _ n0 F_b2_count) E_b2 (w26 hw) (w27 hw) (w29 hw) (w28 hw) (w3 hw) (w30 hw) (by decide) (by decide) (by decide) (by decide) (by decide) rfl (lenOf pd_2 rfl) rfl (Nat.le_of_eq rfl) at_112 ?_
  intro v T h S hQ
  obtain ⟨rfl, hh⟩ := hQ
  replace hh := hh.symm
  subst hh
  show Goes _ _ _ _ T (mkF me_ 115 #[.val (.int p0), .val (.int p1), .val (.int p2), .val (.int p3), .val (.int (p0 &&& (3 : Int32))), .val (.int (p1 &&& (3 : Int32))), .val (.int (p2 &&& (3 : Int32))), .val (.int (p3 &&& (3 : Int32))), .val (.ref b1), .val (.int u22), .val (.ref b2), .unset] [(.int u22)])
  refine Goes.go (fun _ => XS.iload S.here B.x rfl (B.d at_115) rfl) ?_
  show Goes _ _ _ _ T (mkF me_ 117 #[.val (.int p0), .val (.int p1), .val (.int p2), .val (.int p3), .val (.int (p0 &&& (3 : Int32))), .val (.int (p1 &&& (3 : Int32))), .val (.int (p2 &&& (3 : Int32))), .val (.int (p3 &&& (3 : Int32))), .val (.ref b1), .val (.int u22), .val (.ref b2), .unset] [(.int u22), (.int u22)])
  refine Goes.go (fun _ => XS.icmpYes S.here B.x rfl (pc0 := 117) (pc' := 122) rfl (B.d at_117) rfl (teq (rfl : u22 = u22)).1 (by decide) (by decide)) ?_
  show Goes _ _ _ _ T (mkF me_ 122 #[.val (.int p0), .val (.int p1), .val (.int p2), .val (.int p3), .val (.int (p0 &&& (3 : Int32))), .val (.int (p1 &&& (3 : Int32))), .val (.int (p2 &&& (3 : Int32))), .val (.int (p3 &&& (3 : Int32))), .val (.ref b1), .val (.int u22), .val (.ref b2), .unset] [])
  refine Goes.go (fun _ => XS.aload S.here B.x rfl (B.d at_122) rfl rfl) ?_
  show Goes _ _ _ _ T (mkF me_ 124 #[.val (.int p0), .val (.int p1), .val (.int p2), .val (.int p3), .val (.int (p0 &&& (3 : Int32))), .val (.int (p1 &&& (3 : Int32))), .val (.int (p2 &&& (3 : Int32))), .val (.int (p3 &&& (3 : Int32))), .val (.ref b1), .val (.int u22), .val (.ref b2), .unset] [(.ref b2)])
  refine Goes.go (fun _ => XS.iconst S.here B.x rfl (B.d at_124)) ?_
  show Goes _ _ _ _ T (mkF me_ 125 #[.val (.int p0), .val (.int p1), .val (.int p2), .val (.int p3), .val (.int (p0 &&& (3 : Int32))), .val (.int (p1 &&& (3 : Int32))), .val (.int (p2 &&& (3 : Int32))), .val (.int (p3 &&& (3 : Int32))), .val (.ref b1), .val (.int u22), .val (.ref b2), .unset] [(.int (0 : Int32)), (.ref b2)])
  refine Goes.callV (argsL := [(.int (0 : Int32))]) (rest := []) (W := 0) S B (rm_get l Z aw hw b2 (0 : Int32) b3 (4 : Int32).toNatClampNeg u20 _ n0 F_b2_items A_b3 (by decide) (by decide)) E_b2 (w31 hw) (w32 hw) (w34 hw) (w33 hw) (w3 hw) (w35 hw) (by decide) (by decide) (by decide) (by decide) (by decide) rfl (lenOf pd_3 rfl) rfl (Nat.le_of_eq rfl) at_125 ?_
  intro v T h S hQ
  obtain ⟨rfl, hh⟩ := hQ
  replace hh := hh.symm
  subst hh
  show Goes _ _ _ _ T (mkF me_ 128 #[.val (.int p0), .val (.int p1), .val (.int p2), .val (.int p3), .val (.int (p0 &&& (3 : Int32))), .val (.int (p1 &&& (3 : Int32))), .val (.int (p2 &&& (3 : Int32))), .val (.int (p3 &&& (3 : Int32))), .val (.ref b1), .val (.int u22), .val (.ref b2), .unset] [(.int (u20 (0 : Int32).toNatClampNeg))])
  refine Goes.go (fun _ => XS.aload S.here B.x rfl (B.d at_128) rfl rfl) ?_
  show Goes _ _ _ _ T (mkF me_ 130 #[.val (.int p0), .val (.int p1), .val (.int p2), .val (.int p3), .val (.int (p0 &&& (3 : Int32))), .val (.int (p1 &&& (3 : Int32))), .val (.int (p2 &&& (3 : Int32))), .val (.int (p3 &&& (3 : Int32))), .val (.ref b1), .val (.int u22), .val (.ref b2), .unset] [(.ref b1), (.int (u20 (0 : Int32).toNatClampNeg))])
  refine Goes.go (fun _ => XS.iconst S.here B.x rfl (B.d at_130)) ?_
  show Goes _ _ _ _ T (mkF me_ 131 #[.val (.int p0), .val (.int p1), .val (.int p2), .val (.int p3), .val (.int (p0 &&& (3 : Int32))), .val (.int (p1 &&& (3 : Int32))), .val (.int (p2 &&& (3 : Int32))), .val (.int (p3 &&& (3 : Int32))), .val (.ref b1), .val (.int u22), .val (.ref b2), .unset] [(.int (0 : Int32)), (.ref b1), (.int (u20 (0 : Int32).toNatClampNeg))])
  refine Goes.iaload S B A_b1 (by decide) (by decide) at_131 (v := (.int (u23 0))) rfl ?_
  show Goes _ _ _ _ T (mkF me_ 132 #[.val (.int p0), .val (.int p1), .val (.int p2), .val (.int p3), .val (.int (p0 &&& (3 : Int32))), .val (.int (p1 &&& (3 : Int32))), .val (.int (p2 &&& (3 : Int32))), .val (.int (p3 &&& (3 : Int32))), .val (.ref b1), .val (.int u22), .val (.ref b2), .unset] [(.int (u23 0)), (.int (u20 (0 : Int32).toNatClampNeg))])
  refine Goes.go (fun _ => XS.icmpNo S.here B.x rfl (B.d at_132) rfl (teq (show (u20 (0 : Int32).toNatClampNeg) = (u23 0) from own_at hI4 0 0 (by decide) (hI4.1 (by decide)))).2) ?_
  show Goes _ _ _ _ T (mkF me_ 135 #[.val (.int p0), .val (.int p1), .val (.int p2), .val (.int p3), .val (.int (p0 &&& (3 : Int32))), .val (.int (p1 &&& (3 : Int32))), .val (.int (p2 &&& (3 : Int32))), .val (.int (p3 &&& (3 : Int32))), .val (.ref b1), .val (.int u22), .val (.ref b2), .unset] [])
  refine Goes.go (fun _ => XS.iconst S.here B.x rfl (B.d at_135)) ?_
  show Goes _ _ _ _ T (mkF me_ 136 #[.val (.int p0), .val (.int p1), .val (.int p2), .val (.int p3), .val (.int (p0 &&& (3 : Int32))), .val (.int (p1 &&& (3 : Int32))), .val (.int (p2 &&& (3 : Int32))), .val (.int (p3 &&& (3 : Int32))), .val (.ref b1), .val (.int u22), .val (.ref b2), .unset] [(.int (1 : Int32))])
  refine Goes.go (fun _ => XS.goto S.here B.x rfl (pc0 := 136) (pc' := 140) rfl (B.d at_136) (by decide) (by decide)) ?_
  show Goes _ _ _ _ T (mkF me_ 140 #[.val (.int p0), .val (.int p1), .val (.int p2), .val (.int p3), .val (.int (p0 &&& (3 : Int32))), .val (.int (p1 &&& (3 : Int32))), .val (.int (p2 &&& (3 : Int32))), .val (.int (p3 &&& (3 : Int32))), .val (.ref b1), .val (.int u22), .val (.ref b2), .unset] [(.int (1 : Int32))])
  refine Goes.go (fun _ => XS.istore S.here B.x rfl (B.d at_140) rfl (l' := #[.val (.int p0), .val (.int p1), .val (.int p2), .val (.int p3), .val (.int (p0 &&& (3 : Int32))), .val (.int (p1 &&& (3 : Int32))), .val (.int (p2 &&& (3 : Int32))), .val (.int (p3 &&& (3 : Int32))), .val (.ref b1), .val (.int u22), .val (.ref b2), .val (.int (1 : Int32))]) rfl) ?_
  show Goes _ _ _ _ T (mkF me_ 142 #[.val (.int p0), .val (.int p1), .val (.int p2), .val (.int p3), .val (.int (p0 &&& (3 : Int32))), .val (.int (p1 &&& (3 : Int32))), .val (.int (p2 &&& (3 : Int32))), .val (.int (p3 &&& (3 : Int32))), .val (.ref b1), .val (.int u22), .val (.ref b2), .val (.int (1 : Int32))] [])
  refine Goes.go (fun _ => XS.iload S.here B.x rfl (B.d at_142) rfl) ?_
  show Goes _ _ _ _ T (mkF me_ 144 #[.val (.int p0), .val (.int p1), .val (.int p2), .val (.int p3), .val (.int (p0 &&& (3 : Int32))), .val (.int (p1 &&& (3 : Int32))), .val (.int (p2 &&& (3 : Int32))), .val (.int (p3 &&& (3 : Int32))), .val (.ref b1), .val (.int u22), .val (.ref b2), .val (.int (1 : Int32))] [(.int u22)])
  refine Goes.go (fun _ => XS.iconst S.here B.x rfl (B.d at_144)) ?_
  show Goes _ _ _ _ T (mkF me_ 145 #[.val (.int p0), .val (.int p1), .val (.int p2), .val (.int p3), .val (.int (p0 &&& (3 : Int32))), .val (.int (p1 &&& (3 : Int32))), .val (.int (p2 &&& (3 : Int32))), .val (.int (p3 &&& (3 : Int32))), .val (.ref b1), .val (.int u22), .val (.ref b2), .val (.int (1 : Int32))] [(.int (1 : Int32)), (.int u22)])
  by_cases hc145 : (1 : Int32) < u22
  · skip
    refine Goes.go (fun _ => XS.icmpNo S.here B.x rfl (B.d at_145) rfl (tlt hc145).2.2.2) ?_
    show Goes _ _ _ _ T (mkF me_ 148 #[.val (.int p0), .val (.int p1), .val (.int p2), .val (.int p3), .val (.int (p0 &&& (3 : Int32))), .val (.int (p1 &&& (3 : Int32))), .val (.int (p2 &&& (3 : Int32))), .val (.int (p3 &&& (3 : Int32))), .val (.ref b1), .val (.int u22), .val (.ref b2), .val (.int (1 : Int32))] [])
    refine Goes.go (fun _ => XS.iload S.here B.x rfl (B.d at_148) rfl) ?_
    show Goes _ _ _ _ T (mkF me_ 150 #[.val (.int p0), .val (.int p1), .val (.int p2), .val (.int p3), .val (.int (p0 &&& (3 : Int32))), .val (.int (p1 &&& (3 : Int32))), .val (.int (p2 &&& (3 : Int32))), .val (.int (p3 &&& (3 : Int32))), .val (.ref b1), .val (.int u22), .val (.ref b2), .val (.int (1 : Int32))] [(.int (1 : Int32))])
    refine Goes.go (fun _ => XS.ifNo S.here B.x rfl (B.d at_150) rfl (by decide)) ?_
    show Goes _ _ _ _ T (mkF me_ 153 #[.val (.int p0), .val (.int p1), .val (.int p2), .val (.int p3), .val (.int (p0 &&& (3 : Int32))), .val (.int (p1 &&& (3 : Int32))), .val (.int (p2 &&& (3 : Int32))), .val (.int (p3 &&& (3 : Int32))), .val (.ref b1), .val (.int u22), .val (.ref b2), .val (.int (1 : Int32))] [])
    refine Goes.go (fun _ => XS.aload S.here B.x rfl (B.d at_153) rfl rfl) ?_
    show Goes _ _ _ _ T (mkF me_ 155 #[.val (.int p0), .val (.int p1), .val (.int p2), .val (.int p3), .val (.int (p0 &&& (3 : Int32))), .val (.int (p1 &&& (3 : Int32))), .val (.int (p2 &&& (3 : Int32))), .val (.int (p3 &&& (3 : Int32))), .val (.ref b1), .val (.int u22), .val (.ref b2), .val (.int (1 : Int32))] [(.ref b2)])
    refine Goes.go (fun _ => XS.iconst S.here B.x rfl (B.d at_155)) ?_
    show Goes _ _ _ _ T (mkF me_ 156 #[.val (.int p0), .val (.int p1), .val (.int p2), .val (.int p3), .val (.int (p0 &&& (3 : Int32))), .val (.int (p1 &&& (3 : Int32))), .val (.int (p2 &&& (3 : Int32))), .val (.int (p3 &&& (3 : Int32))), .val (.ref b1), .val (.int u22), .val (.ref b2), .val (.int (1 : Int32))] [(.int (1 : Int32)), (.ref b2)])
    refine Goes.callV (argsL := [(.int (1 : Int32))]) (rest := []) (W := 0) S B (rm_get l Z aw hw b2 (1 : Int32) b3 (4 : Int32).toNatClampNeg u20 _ n0 F_b2_items A_b3 (by decide) (by decide)) E_b2 (w31 hw) (w32 hw) (w34 hw) (w33 hw) (w3 hw) (w35 hw) (by decide) (by decide) (by decide) (by decide) (by decide) rfl (lenOf pd_3 rfl) rfl (Nat.le_of_eq rfl) at_156 ?_
    intro v T h S hQ
    obtain ⟨rfl, hh⟩ := hQ
    replace hh := hh.symm
    subst hh
    show Goes _ _ _ _ T (mkF me_ 159 #[.val (.int p0), .val (.int p1), .val (.int p2), .val (.int p3), .val (.int (p0 &&& (3 : Int32))), .val (.int (p1 &&& (3 : Int32))), .val (.int (p2 &&& (3 : Int32))), .val (.int (p3 &&& (3 : Int32))), .val (.ref b1), .val (.int u22), .val (.ref b2), .val (.int (1 : Int32))] [(.int (u20 (1 : Int32).toNatClampNeg))])
    refine Goes.go (fun _ => XS.aload S.here B.x rfl (B.d at_159) rfl rfl) ?_
    show Goes _ _ _ _ T (mkF me_ 161 #[.val (.int p0), .val (.int p1), .val (.int p2), .val (.int p3), .val (.int (p0 &&& (3 : Int32))), .val (.int (p1 &&& (3 : Int32))), .val (.int (p2 &&& (3 : Int32))), .val (.int (p3 &&& (3 : Int32))), .val (.ref b1), .val (.int u22), .val (.ref b2), .val (.int (1 : Int32))] [(.ref b1), (.int (u20 (1 : Int32).toNatClampNeg))])
    refine Goes.go (fun _ => XS.iconst S.here B.x rfl (B.d at_161)) ?_
    show Goes _ _ _ _ T (mkF me_ 162 #[.val (.int p0), .val (.int p1), .val (.int p2), .val (.int p3), .val (.int (p0 &&& (3 : Int32))), .val (.int (p1 &&& (3 : Int32))), .val (.int (p2 &&& (3 : Int32))), .val (.int (p3 &&& (3 : Int32))), .val (.ref b1), .val (.int u22), .val (.ref b2), .val (.int (1 : Int32))] [(.int (1 : Int32)), (.ref b1), (.int (u20 (1 : Int32).toNatClampNeg))])
    refine Goes.iaload S B A_b1 (by decide) (by decide) at_162 (v := (.int (u23 1))) rfl ?_
    show Goes _ _ _ _ T (mkF me_ 163 #[.val (.int p0), .val (.int p1), .val (.int p2), .val (.int p3), .val (.int (p0 &&& (3 : Int32))), .val (.int (p1 &&& (3 : Int32))), .val (.int (p2 &&& (3 : Int32))), .val (.int (p3 &&& (3 : Int32))), .val (.ref b1), .val (.int u22), .val (.ref b2), .val (.int (1 : Int32))] [(.int (u23 1)), (.int (u20 (1 : Int32).toNatClampNeg))])
    refine Goes.go (fun _ => XS.icmpNo S.here B.x rfl (B.d at_163) rfl (teq (show (u20 (1 : Int32).toNatClampNeg) = (u23 1) from own_at hI4 1 1 (by decide) hc145)).2) ?_
    show Goes _ _ _ _ T (mkF me_ 166 #[.val (.int p0), .val (.int p1), .val (.int p2), .val (.int p3), .val (.int (p0 &&& (3 : Int32))), .val (.int (p1 &&& (3 : Int32))), .val (.int (p2 &&& (3 : Int32))), .val (.int (p3 &&& (3 : Int32))), .val (.ref b1), .val (.int u22), .val (.ref b2), .val (.int (1 : Int32))] [])
    refine Goes.go (fun _ => XS.iconst S.here B.x rfl (B.d at_166)) ?_
    show Goes _ _ _ _ T (mkF me_ 167 #[.val (.int p0), .val (.int p1), .val (.int p2), .val (.int p3), .val (.int (p0 &&& (3 : Int32))), .val (.int (p1 &&& (3 : Int32))), .val (.int (p2 &&& (3 : Int32))), .val (.int (p3 &&& (3 : Int32))), .val (.ref b1), .val (.int u22), .val (.ref b2), .val (.int (1 : Int32))] [(.int (1 : Int32))])
    refine Goes.go (fun _ => XS.goto S.here B.x rfl (pc0 := 167) (pc' := 171) rfl (B.d at_167) (by decide) (by decide)) ?_
    show Goes _ _ _ _ T (mkF me_ 171 #[.val (.int p0), .val (.int p1), .val (.int p2), .val (.int p3), .val (.int (p0 &&& (3 : Int32))), .val (.int (p1 &&& (3 : Int32))), .val (.int (p2 &&& (3 : Int32))), .val (.int (p3 &&& (3 : Int32))), .val (.ref b1), .val (.int u22), .val (.ref b2), .val (.int (1 : Int32))] [(.int (1 : Int32))])
    refine Goes.go (fun _ => XS.istore S.here B.x rfl (B.d at_171) rfl (l' := #[.val (.int p0), .val (.int p1), .val (.int p2), .val (.int p3), .val (.int (p0 &&& (3 : Int32))), .val (.int (p1 &&& (3 : Int32))), .val (.int (p2 &&& (3 : Int32))), .val (.int (p3 &&& (3 : Int32))), .val (.ref b1), .val (.int u22), .val (.ref b2), .val (.int (1 : Int32))]) rfl) ?_
    show Goes _ _ _ _ T (mkF me_ 173 #[.val (.int p0), .val (.int p1), .val (.int p2), .val (.int p3), .val (.int (p0 &&& (3 : Int32))), .val (.int (p1 &&& (3 : Int32))), .val (.int (p2 &&& (3 : Int32))), .val (.int (p3 &&& (3 : Int32))), .val (.ref b1), .val (.int u22), .val (.ref b2), .val (.int (1 : Int32))] [])
    refine Goes.go (fun _ => XS.iload S.here B.x rfl (B.d at_173) rfl) ?_
    show Goes _ _ _ _ T (mkF me_ 175 #[.val (.int p0), .val (.int p1), .val (.int p2), .val (.int p3), .val (.int (p0 &&& (3 : Int32))), .val (.int (p1 &&& (3 : Int32))), .val (.int (p2 &&& (3 : Int32))), .val (.int (p3 &&& (3 : Int32))), .val (.ref b1), .val (.int u22), .val (.ref b2), .val (.int (1 : Int32))] [(.int u22)])
    refine Goes.go (fun _ => XS.iconst S.here B.x rfl (B.d at_175)) ?_
    show Goes _ _ _ _ T (mkF me_ 176 #[.val (.int p0), .val (.int p1), .val (.int p2), .val (.int p3), .val (.int (p0 &&& (3 : Int32))), .val (.int (p1 &&& (3 : Int32))), .val (.int (p2 &&& (3 : Int32))), .val (.int (p3 &&& (3 : Int32))), .val (.ref b1), .val (.int u22), .val (.ref b2), .val (.int (1 : Int32))] [(.int (2 : Int32)), (.int u22)])
    by_cases hc176 : (2 : Int32) < u22
    · skip
      refine Goes.go (fun _ => XS.icmpNo S.here B.x rfl (B.d at_176) rfl (tlt hc176).2.2.2) ?_
      show Goes _ _ _ _ T (mkF me_ 179 #[.val (.int p0), .val (.int p1), .val (.int p2), .val (.int p3), .val (.int (p0 &&& (3 : Int32))), .val (.int (p1 &&& (3 : Int32))), .val (.int (p2 &&& (3 : Int32))), .val (.int (p3 &&& (3 : Int32))), .val (.ref b1), .val (.int u22), .val (.ref b2), .val (.int (1 : Int32))] [])
      refine Goes.go (fun _ => XS.iload S.here B.x rfl (B.d at_179) rfl) ?_
      show Goes _ _ _ _ T (mkF me_ 181 #[.val (.int p0), .val (.int p1), .val (.int p2), .val (.int p3), .val (.int (p0 &&& (3 : Int32))), .val (.int (p1 &&& (3 : Int32))), .val (.int (p2 &&& (3 : Int32))), .val (.int (p3 &&& (3 : Int32))), .val (.ref b1), .val (.int u22), .val (.ref b2), .val (.int (1 : Int32))] [(.int (1 : Int32))])
      refine Goes.go (fun _ => XS.ifNo S.here B.x rfl (B.d at_181) rfl (by decide)) ?_
      show Goes _ _ _ _ T (mkF me_ 184 #[.val (.int p0), .val (.int p1), .val (.int p2), .val (.int p3), .val (.int (p0 &&& (3 : Int32))), .val (.int (p1 &&& (3 : Int32))), .val (.int (p2 &&& (3 : Int32))), .val (.int (p3 &&& (3 : Int32))), .val (.ref b1), .val (.int u22), .val (.ref b2), .val (.int (1 : Int32))] [])
      refine Goes.go (fun _ => XS.aload S.here B.x rfl (B.d at_184) rfl rfl) ?_
      show Goes _ _ _ _ T (mkF me_ 186 #[.val (.int p0), .val (.int p1), .val (.int p2), .val (.int p3), .val (.int (p0 &&& (3 : Int32))), .val (.int (p1 &&& (3 : Int32))), .val (.int (p2 &&& (3 : Int32))), .val (.int (p3 &&& (3 : Int32))), .val (.ref b1), .val (.int u22), .val (.ref b2), .val (.int (1 : Int32))] [(.ref b2)])
      refine Goes.go (fun _ => XS.iconst S.here B.x rfl (B.d at_186)) ?_
      show Goes _ _ _ _ T (mkF me_ 187 #[.val (.int p0), .val (.int p1), .val (.int p2), .val (.int p3), .val (.int (p0 &&& (3 : Int32))), .val (.int (p1 &&& (3 : Int32))), .val (.int (p2 &&& (3 : Int32))), .val (.int (p3 &&& (3 : Int32))), .val (.ref b1), .val (.int u22), .val (.ref b2), .val (.int (1 : Int32))] [(.int (2 : Int32)), (.ref b2)])
      refine Goes.callV (argsL := [(.int (2 : Int32))]) (rest := []) (W := 0) S B (rm_get l Z aw hw b2 (2 : Int32) b3 (4 : Int32).toNatClampNeg u20 _ n0 F_b2_items A_b3 (by decide) (by decide)) E_b2 (w31 hw) (w32 hw) (w34 hw) (w33 hw) (w3 hw) (w35 hw) (by decide) (by decide) (by decide) (by decide) (by decide) rfl (lenOf pd_3 rfl) rfl (Nat.le_of_eq rfl) at_187 ?_
      intro v T h S hQ
      obtain ⟨rfl, hh⟩ := hQ
      replace hh := hh.symm
      subst hh
      show Goes _ _ _ _ T (mkF me_ 190 #[.val (.int p0), .val (.int p1), .val (.int p2), .val (.int p3), .val (.int (p0 &&& (3 : Int32))), .val (.int (p1 &&& (3 : Int32))), .val (.int (p2 &&& (3 : Int32))), .val (.int (p3 &&& (3 : Int32))), .val (.ref b1), .val (.int u22), .val (.ref b2), .val (.int (1 : Int32))] [(.int (u20 (2 : Int32).toNatClampNeg))])
      refine Goes.go (fun _ => XS.aload S.here B.x rfl (B.d at_190) rfl rfl) ?_
      show Goes _ _ _ _ T (mkF me_ 192 #[.val (.int p0), .val (.int p1), .val (.int p2), .val (.int p3), .val (.int (p0 &&& (3 : Int32))), .val (.int (p1 &&& (3 : Int32))), .val (.int (p2 &&& (3 : Int32))), .val (.int (p3 &&& (3 : Int32))), .val (.ref b1), .val (.int u22), .val (.ref b2), .val (.int (1 : Int32))] [(.ref b1), (.int (u20 (2 : Int32).toNatClampNeg))])
      refine Goes.go (fun _ => XS.iconst S.here B.x rfl (B.d at_192)) ?_
      show Goes _ _ _ _ T (mkF me_ 193 #[.val (.int p0), .val (.int p1), .val (.int p2), .val (.int p3), .val (.int (p0 &&& (3 : Int32))), .val (.int (p1 &&& (3 : Int32))), .val (.int (p2 &&& (3 : Int32))), .val (.int (p3 &&& (3 : Int32))), .val (.ref b1), .val (.int u22), .val (.ref b2), .val (.int (1 : Int32))] [(.int (2 : Int32)), (.ref b1), (.int (u20 (2 : Int32).toNatClampNeg))])
      refine Goes.iaload S B A_b1 (by decide) (by decide) at_193 (v := (.int (u23 2))) rfl ?_
      show Goes _ _ _ _ T (mkF me_ 194 #[.val (.int p0), .val (.int p1), .val (.int p2), .val (.int p3), .val (.int (p0 &&& (3 : Int32))), .val (.int (p1 &&& (3 : Int32))), .val (.int (p2 &&& (3 : Int32))), .val (.int (p3 &&& (3 : Int32))), .val (.ref b1), .val (.int u22), .val (.ref b2), .val (.int (1 : Int32))] [(.int (u23 2)), (.int (u20 (2 : Int32).toNatClampNeg))])
      refine Goes.go (fun _ => XS.icmpNo S.here B.x rfl (B.d at_194) rfl (teq (show (u20 (2 : Int32).toNatClampNeg) = (u23 2) from own_at hI4 2 2 (by decide) hc176)).2) ?_
      show Goes _ _ _ _ T (mkF me_ 197 #[.val (.int p0), .val (.int p1), .val (.int p2), .val (.int p3), .val (.int (p0 &&& (3 : Int32))), .val (.int (p1 &&& (3 : Int32))), .val (.int (p2 &&& (3 : Int32))), .val (.int (p3 &&& (3 : Int32))), .val (.ref b1), .val (.int u22), .val (.ref b2), .val (.int (1 : Int32))] [])
      refine Goes.go (fun _ => XS.iconst S.here B.x rfl (B.d at_197)) ?_
      show Goes _ _ _ _ T (mkF me_ 198 #[.val (.int p0), .val (.int p1), .val (.int p2), .val (.int p3), .val (.int (p0 &&& (3 : Int32))), .val (.int (p1 &&& (3 : Int32))), .val (.int (p2 &&& (3 : Int32))), .val (.int (p3 &&& (3 : Int32))), .val (.ref b1), .val (.int u22), .val (.ref b2), .val (.int (1 : Int32))] [(.int (1 : Int32))])
      refine Goes.go (fun _ => XS.goto S.here B.x rfl (pc0 := 198) (pc' := 202) rfl (B.d at_198) (by decide) (by decide)) ?_
      show Goes _ _ _ _ T (mkF me_ 202 #[.val (.int p0), .val (.int p1), .val (.int p2), .val (.int p3), .val (.int (p0 &&& (3 : Int32))), .val (.int (p1 &&& (3 : Int32))), .val (.int (p2 &&& (3 : Int32))), .val (.int (p3 &&& (3 : Int32))), .val (.ref b1), .val (.int u22), .val (.ref b2), .val (.int (1 : Int32))] [(.int (1 : Int32))])
      refine Goes.go (fun _ => XS.istore S.here B.x rfl (B.d at_202) rfl (l' := #[.val (.int p0), .val (.int p1), .val (.int p2), .val (.int p3), .val (.int (p0 &&& (3 : Int32))), .val (.int (p1 &&& (3 : Int32))), .val (.int (p2 &&& (3 : Int32))), .val (.int (p3 &&& (3 : Int32))), .val (.ref b1), .val (.int u22), .val (.ref b2), .val (.int (1 : Int32))]) rfl) ?_
      show Goes _ _ _ _ T (mkF me_ 204 #[.val (.int p0), .val (.int p1), .val (.int p2), .val (.int p3), .val (.int (p0 &&& (3 : Int32))), .val (.int (p1 &&& (3 : Int32))), .val (.int (p2 &&& (3 : Int32))), .val (.int (p3 &&& (3 : Int32))), .val (.ref b1), .val (.int u22), .val (.ref b2), .val (.int (1 : Int32))] [])
      refine Goes.go (fun _ => XS.iload S.here B.x rfl (B.d at_204) rfl) ?_
      show Goes _ _ _ _ T (mkF me_ 206 #[.val (.int p0), .val (.int p1), .val (.int p2), .val (.int p3), .val (.int (p0 &&& (3 : Int32))), .val (.int (p1 &&& (3 : Int32))), .val (.int (p2 &&& (3 : Int32))), .val (.int (p3 &&& (3 : Int32))), .val (.ref b1), .val (.int u22), .val (.ref b2), .val (.int (1 : Int32))] [(.int u22)])
      refine Goes.go (fun _ => XS.iconst S.here B.x rfl (B.d at_206)) ?_
      show Goes _ _ _ _ T (mkF me_ 207 #[.val (.int p0), .val (.int p1), .val (.int p2), .val (.int p3), .val (.int (p0 &&& (3 : Int32))), .val (.int (p1 &&& (3 : Int32))), .val (.int (p2 &&& (3 : Int32))), .val (.int (p3 &&& (3 : Int32))), .val (.ref b1), .val (.int u22), .val (.ref b2), .val (.int (1 : Int32))] [(.int (3 : Int32)), (.int u22)])
      by_cases hc207 : (3 : Int32) < u22
      · skip
        refine Goes.go (fun _ => XS.icmpNo S.here B.x rfl (B.d at_207) rfl (tlt hc207).2.2.2) ?_
        show Goes _ _ _ _ T (mkF me_ 210 #[.val (.int p0), .val (.int p1), .val (.int p2), .val (.int p3), .val (.int (p0 &&& (3 : Int32))), .val (.int (p1 &&& (3 : Int32))), .val (.int (p2 &&& (3 : Int32))), .val (.int (p3 &&& (3 : Int32))), .val (.ref b1), .val (.int u22), .val (.ref b2), .val (.int (1 : Int32))] [])
        refine Goes.go (fun _ => XS.iload S.here B.x rfl (B.d at_210) rfl) ?_
        show Goes _ _ _ _ T (mkF me_ 212 #[.val (.int p0), .val (.int p1), .val (.int p2), .val (.int p3), .val (.int (p0 &&& (3 : Int32))), .val (.int (p1 &&& (3 : Int32))), .val (.int (p2 &&& (3 : Int32))), .val (.int (p3 &&& (3 : Int32))), .val (.ref b1), .val (.int u22), .val (.ref b2), .val (.int (1 : Int32))] [(.int (1 : Int32))])
        refine Goes.go (fun _ => XS.ifNo S.here B.x rfl (B.d at_212) rfl (by decide)) ?_
        show Goes _ _ _ _ T (mkF me_ 215 #[.val (.int p0), .val (.int p1), .val (.int p2), .val (.int p3), .val (.int (p0 &&& (3 : Int32))), .val (.int (p1 &&& (3 : Int32))), .val (.int (p2 &&& (3 : Int32))), .val (.int (p3 &&& (3 : Int32))), .val (.ref b1), .val (.int u22), .val (.ref b2), .val (.int (1 : Int32))] [])
        refine Goes.go (fun _ => XS.aload S.here B.x rfl (B.d at_215) rfl rfl) ?_
        show Goes _ _ _ _ T (mkF me_ 217 #[.val (.int p0), .val (.int p1), .val (.int p2), .val (.int p3), .val (.int (p0 &&& (3 : Int32))), .val (.int (p1 &&& (3 : Int32))), .val (.int (p2 &&& (3 : Int32))), .val (.int (p3 &&& (3 : Int32))), .val (.ref b1), .val (.int u22), .val (.ref b2), .val (.int (1 : Int32))] [(.ref b2)])
        refine Goes.go (fun _ => XS.iconst S.here B.x rfl (B.d at_217)) ?_
        show Goes _ _ _ _ T (mkF me_ 218 #[.val (.int p0), .val (.int p1), .val (.int p2), .val (.int p3), .val (.int (p0 &&& (3 : Int32))), .val (.int (p1 &&& (3 : Int32))), .val (.int (p2 &&& (3 : Int32))), .val (.int (p3 &&& (3 : Int32))), .val (.ref b1), .val (.int u22), .val (.ref b2), .val (.int (1 : Int32))] [(.int (3 : Int32)), (.ref b2)])
        refine Goes.callV (argsL := [(.int (3 : Int32))]) (rest := []) (W := 0) S B (rm_get l Z aw hw b2 (3 : Int32) b3 (4 : Int32).toNatClampNeg u20 _ n0 F_b2_items A_b3 (by decide) (by decide)) E_b2 (w31 hw) (w32 hw) (w34 hw) (w33 hw) (w3 hw) (w35 hw) (by decide) (by decide) (by decide) (by decide) (by decide) rfl (lenOf pd_3 rfl) rfl (Nat.le_of_eq rfl) at_218 ?_
        intro v T h S hQ
        obtain ⟨rfl, hh⟩ := hQ
        replace hh := hh.symm
        subst hh
        show Goes _ _ _ _ T (mkF me_ 221 #[.val (.int p0), .val (.int p1), .val (.int p2), .val (.int p3), .val (.int (p0 &&& (3 : Int32))), .val (.int (p1 &&& (3 : Int32))), .val (.int (p2 &&& (3 : Int32))), .val (.int (p3 &&& (3 : Int32))), .val (.ref b1), .val (.int u22), .val (.ref b2), .val (.int (1 : Int32))] [(.int (u20 (3 : Int32).toNatClampNeg))])
        refine Goes.go (fun _ => XS.aload S.here B.x rfl (B.d at_221) rfl rfl) ?_
        show Goes _ _ _ _ T (mkF me_ 223 #[.val (.int p0), .val (.int p1), .val (.int p2), .val (.int p3), .val (.int (p0 &&& (3 : Int32))), .val (.int (p1 &&& (3 : Int32))), .val (.int (p2 &&& (3 : Int32))), .val (.int (p3 &&& (3 : Int32))), .val (.ref b1), .val (.int u22), .val (.ref b2), .val (.int (1 : Int32))] [(.ref b1), (.int (u20 (3 : Int32).toNatClampNeg))])
        refine Goes.go (fun _ => XS.iconst S.here B.x rfl (B.d at_223)) ?_
        show Goes _ _ _ _ T (mkF me_ 224 #[.val (.int p0), .val (.int p1), .val (.int p2), .val (.int p3), .val (.int (p0 &&& (3 : Int32))), .val (.int (p1 &&& (3 : Int32))), .val (.int (p2 &&& (3 : Int32))), .val (.int (p3 &&& (3 : Int32))), .val (.ref b1), .val (.int u22), .val (.ref b2), .val (.int (1 : Int32))] [(.int (3 : Int32)), (.ref b1), (.int (u20 (3 : Int32).toNatClampNeg))])
        refine Goes.iaload S B A_b1 (by decide) (by decide) at_224 (v := (.int (u23 3))) rfl ?_
        show Goes _ _ _ _ T (mkF me_ 225 #[.val (.int p0), .val (.int p1), .val (.int p2), .val (.int p3), .val (.int (p0 &&& (3 : Int32))), .val (.int (p1 &&& (3 : Int32))), .val (.int (p2 &&& (3 : Int32))), .val (.int (p3 &&& (3 : Int32))), .val (.ref b1), .val (.int u22), .val (.ref b2), .val (.int (1 : Int32))] [(.int (u23 3)), (.int (u20 (3 : Int32).toNatClampNeg))])
        refine Goes.go (fun _ => XS.icmpNo S.here B.x rfl (B.d at_225) rfl (teq (show (u20 (3 : Int32).toNatClampNeg) = (u23 3) from own_at hI4 3 3 (by decide) hc207)).2) ?_
        show Goes _ _ _ _ T (mkF me_ 228 #[.val (.int p0), .val (.int p1), .val (.int p2), .val (.int p3), .val (.int (p0 &&& (3 : Int32))), .val (.int (p1 &&& (3 : Int32))), .val (.int (p2 &&& (3 : Int32))), .val (.int (p3 &&& (3 : Int32))), .val (.ref b1), .val (.int u22), .val (.ref b2), .val (.int (1 : Int32))] [])
        refine Goes.go (fun _ => XS.iconst S.here B.x rfl (B.d at_228)) ?_
        show Goes _ _ _ _ T (mkF me_ 229 #[.val (.int p0), .val (.int p1), .val (.int p2), .val (.int p3), .val (.int (p0 &&& (3 : Int32))), .val (.int (p1 &&& (3 : Int32))), .val (.int (p2 &&& (3 : Int32))), .val (.int (p3 &&& (3 : Int32))), .val (.ref b1), .val (.int u22), .val (.ref b2), .val (.int (1 : Int32))] [(.int (1 : Int32))])
        refine Goes.go (fun _ => XS.goto S.here B.x rfl (pc0 := 229) (pc' := 233) rfl (B.d at_229) (by decide) (by decide)) ?_
        show Goes _ _ _ _ T (mkF me_ 233 #[.val (.int p0), .val (.int p1), .val (.int p2), .val (.int p3), .val (.int (p0 &&& (3 : Int32))), .val (.int (p1 &&& (3 : Int32))), .val (.int (p2 &&& (3 : Int32))), .val (.int (p3 &&& (3 : Int32))), .val (.ref b1), .val (.int u22), .val (.ref b2), .val (.int (1 : Int32))] [(.int (1 : Int32))])
        refine Goes.go (fun _ => XS.istore S.here B.x rfl (B.d at_233) rfl (l' := #[.val (.int p0), .val (.int p1), .val (.int p2), .val (.int p3), .val (.int (p0 &&& (3 : Int32))), .val (.int (p1 &&& (3 : Int32))), .val (.int (p2 &&& (3 : Int32))), .val (.int (p3 &&& (3 : Int32))), .val (.ref b1), .val (.int u22), .val (.ref b2), .val (.int (1 : Int32))]) rfl) ?_
        show Goes _ _ _ _ T (mkF me_ 235 #[.val (.int p0), .val (.int p1), .val (.int p2), .val (.int p3), .val (.int (p0 &&& (3 : Int32))), .val (.int (p1 &&& (3 : Int32))), .val (.int (p2 &&& (3 : Int32))), .val (.int (p3 &&& (3 : Int32))), .val (.ref b1), .val (.int u22), .val (.ref b2), .val (.int (1 : Int32))] [])
        refine Goes.go (fun _ => XS.iload S.here B.x rfl (B.d at_235) rfl) ?_
        show Goes _ _ _ _ T (mkF me_ 237 #[.val (.int p0), .val (.int p1), .val (.int p2), .val (.int p3), .val (.int (p0 &&& (3 : Int32))), .val (.int (p1 &&& (3 : Int32))), .val (.int (p2 &&& (3 : Int32))), .val (.int (p3 &&& (3 : Int32))), .val (.ref b1), .val (.int u22), .val (.ref b2), .val (.int (1 : Int32))] [(.int (1 : Int32))])
        refine Goes.retN S B (by simp) at_237 (by decide) (by decide) ?_
        exact rfl
      · skip
        refine Goes.go (fun _ => XS.icmpYes S.here B.x rfl (pc0 := 207) (pc' := 235) rfl (B.d at_207) rfl (flt hc207).2.2.2 (by decide) (by decide)) ?_
        show Goes _ _ _ _ T (mkF me_ 235 #[.val (.int p0), .val (.int p1), .val (.int p2), .val (.int p3), .val (.int (p0 &&& (3 : Int32))), .val (.int (p1 &&& (3 : Int32))), .val (.int (p2 &&& (3 : Int32))), .val (.int (p3 &&& (3 : Int32))), .val (.ref b1), .val (.int u22), .val (.ref b2), .val (.int (1 : Int32))] [])
        refine Goes.go (fun _ => XS.iload S.here B.x rfl (B.d at_235) rfl) ?_
        show Goes _ _ _ _ T (mkF me_ 237 #[.val (.int p0), .val (.int p1), .val (.int p2), .val (.int p3), .val (.int (p0 &&& (3 : Int32))), .val (.int (p1 &&& (3 : Int32))), .val (.int (p2 &&& (3 : Int32))), .val (.int (p3 &&& (3 : Int32))), .val (.ref b1), .val (.int u22), .val (.ref b2), .val (.int (1 : Int32))] [(.int (1 : Int32))])
        refine Goes.retN S B (by simp) at_237 (by decide) (by decide) ?_
        exact rfl
    · skip
      refine Goes.go (fun _ => XS.icmpYes S.here B.x rfl (pc0 := 176) (pc' := 204) rfl (B.d at_176) rfl (flt hc176).2.2.2 (by decide) (by decide)) ?_
      show Goes _ _ _ _ T (mkF me_ 204 #[.val (.int p0), .val (.int p1), .val (.int p2), .val (.int p3), .val (.int (p0 &&& (3 : Int32))), .val (.int (p1 &&& (3 : Int32))), .val (.int (p2 &&& (3 : Int32))), .val (.int (p3 &&& (3 : Int32))), .val (.ref b1), .val (.int u22), .val (.ref b2), .val (.int (1 : Int32))] [])
      refine Goes.go (fun _ => XS.iload S.here B.x rfl (B.d at_204) rfl) ?_
      show Goes _ _ _ _ T (mkF me_ 206 #[.val (.int p0), .val (.int p1), .val (.int p2), .val (.int p3), .val (.int (p0 &&& (3 : Int32))), .val (.int (p1 &&& (3 : Int32))), .val (.int (p2 &&& (3 : Int32))), .val (.int (p3 &&& (3 : Int32))), .val (.ref b1), .val (.int u22), .val (.ref b2), .val (.int (1 : Int32))] [(.int u22)])
      refine Goes.go (fun _ => XS.iconst S.here B.x rfl (B.d at_206)) ?_
      show Goes _ _ _ _ T (mkF me_ 207 #[.val (.int p0), .val (.int p1), .val (.int p2), .val (.int p3), .val (.int (p0 &&& (3 : Int32))), .val (.int (p1 &&& (3 : Int32))), .val (.int (p2 &&& (3 : Int32))), .val (.int (p3 &&& (3 : Int32))), .val (.ref b1), .val (.int u22), .val (.ref b2), .val (.int (1 : Int32))] [(.int (3 : Int32)), (.int u22)])
      by_cases hc207 : (3 : Int32) < u22
      · skip
        refine Goes.go (fun _ => XS.icmpNo S.here B.x rfl (B.d at_207) rfl (tlt hc207).2.2.2) ?_
        show Goes _ _ _ _ T (mkF me_ 210 #[.val (.int p0), .val (.int p1), .val (.int p2), .val (.int p3), .val (.int (p0 &&& (3 : Int32))), .val (.int (p1 &&& (3 : Int32))), .val (.int (p2 &&& (3 : Int32))), .val (.int (p3 &&& (3 : Int32))), .val (.ref b1), .val (.int u22), .val (.ref b2), .val (.int (1 : Int32))] [])
        refine Goes.go (fun _ => XS.iload S.here B.x rfl (B.d at_210) rfl) ?_
        show Goes _ _ _ _ T (mkF me_ 212 #[.val (.int p0), .val (.int p1), .val (.int p2), .val (.int p3), .val (.int (p0 &&& (3 : Int32))), .val (.int (p1 &&& (3 : Int32))), .val (.int (p2 &&& (3 : Int32))), .val (.int (p3 &&& (3 : Int32))), .val (.ref b1), .val (.int u22), .val (.ref b2), .val (.int (1 : Int32))] [(.int (1 : Int32))])
        refine Goes.go (fun _ => XS.ifNo S.here B.x rfl (B.d at_212) rfl (by decide)) ?_
        show Goes _ _ _ _ T (mkF me_ 215 #[.val (.int p0), .val (.int p1), .val (.int p2), .val (.int p3), .val (.int (p0 &&& (3 : Int32))), .val (.int (p1 &&& (3 : Int32))), .val (.int (p2 &&& (3 : Int32))), .val (.int (p3 &&& (3 : Int32))), .val (.ref b1), .val (.int u22), .val (.ref b2), .val (.int (1 : Int32))] [])
        refine Goes.go (fun _ => XS.aload S.here B.x rfl (B.d at_215) rfl rfl) ?_
        show Goes _ _ _ _ T (mkF me_ 217 #[.val (.int p0), .val (.int p1), .val (.int p2), .val (.int p3), .val (.int (p0 &&& (3 : Int32))), .val (.int (p1 &&& (3 : Int32))), .val (.int (p2 &&& (3 : Int32))), .val (.int (p3 &&& (3 : Int32))), .val (.ref b1), .val (.int u22), .val (.ref b2), .val (.int (1 : Int32))] [(.ref b2)])
        refine Goes.go (fun _ => XS.iconst S.here B.x rfl (B.d at_217)) ?_
        show Goes _ _ _ _ T (mkF me_ 218 #[.val (.int p0), .val (.int p1), .val (.int p2), .val (.int p3), .val (.int (p0 &&& (3 : Int32))), .val (.int (p1 &&& (3 : Int32))), .val (.int (p2 &&& (3 : Int32))), .val (.int (p3 &&& (3 : Int32))), .val (.ref b1), .val (.int u22), .val (.ref b2), .val (.int (1 : Int32))] [(.int (3 : Int32)), (.ref b2)])
        refine Goes.callV (argsL := [(.int (3 : Int32))]) (rest := []) (W := 0) S B (rm_get l Z aw hw b2 (3 : Int32) b3 (4 : Int32).toNatClampNeg u20 _ n0 F_b2_items A_b3 (by decide) (by decide)) E_b2 (w31 hw) (w32 hw) (w34 hw) (w33 hw) (w3 hw) (w35 hw) (by decide) (by decide) (by decide) (by decide) (by decide) rfl (lenOf pd_3 rfl) rfl (Nat.le_of_eq rfl) at_218 ?_
        intro v T h S hQ
        obtain ⟨rfl, hh⟩ := hQ
        replace hh := hh.symm
        subst hh
        show Goes _ _ _ _ T (mkF me_ 221 #[.val (.int p0), .val (.int p1), .val (.int p2), .val (.int p3), .val (.int (p0 &&& (3 : Int32))), .val (.int (p1 &&& (3 : Int32))), .val (.int (p2 &&& (3 : Int32))), .val (.int (p3 &&& (3 : Int32))), .val (.ref b1), .val (.int u22), .val (.ref b2), .val (.int (1 : Int32))] [(.int (u20 (3 : Int32).toNatClampNeg))])
        refine Goes.go (fun _ => XS.aload S.here B.x rfl (B.d at_221) rfl rfl) ?_
        show Goes _ _ _ _ T (mkF me_ 223 #[.val (.int p0), .val (.int p1), .val (.int p2), .val (.int p3), .val (.int (p0 &&& (3 : Int32))), .val (.int (p1 &&& (3 : Int32))), .val (.int (p2 &&& (3 : Int32))), .val (.int (p3 &&& (3 : Int32))), .val (.ref b1), .val (.int u22), .val (.ref b2), .val (.int (1 : Int32))] [(.ref b1), (.int (u20 (3 : Int32).toNatClampNeg))])
        refine Goes.go (fun _ => XS.iconst S.here B.x rfl (B.d at_223)) ?_
        show Goes _ _ _ _ T (mkF me_ 224 #[.val (.int p0), .val (.int p1), .val (.int p2), .val (.int p3), .val (.int (p0 &&& (3 : Int32))), .val (.int (p1 &&& (3 : Int32))), .val (.int (p2 &&& (3 : Int32))), .val (.int (p3 &&& (3 : Int32))), .val (.ref b1), .val (.int u22), .val (.ref b2), .val (.int (1 : Int32))] [(.int (3 : Int32)), (.ref b1), (.int (u20 (3 : Int32).toNatClampNeg))])
        refine Goes.iaload S B A_b1 (by decide) (by decide) at_224 (v := (.int (u23 3))) rfl ?_
        show Goes _ _ _ _ T (mkF me_ 225 #[.val (.int p0), .val (.int p1), .val (.int p2), .val (.int p3), .val (.int (p0 &&& (3 : Int32))), .val (.int (p1 &&& (3 : Int32))), .val (.int (p2 &&& (3 : Int32))), .val (.int (p3 &&& (3 : Int32))), .val (.ref b1), .val (.int u22), .val (.ref b2), .val (.int (1 : Int32))] [(.int (u23 3)), (.int (u20 (3 : Int32).toNatClampNeg))])
        refine Goes.go (fun _ => XS.icmpNo S.here B.x rfl (B.d at_225) rfl (teq (show (u20 (3 : Int32).toNatClampNeg) = (u23 3) from own_at hI4 3 3 (by decide) hc207)).2) ?_
        show Goes _ _ _ _ T (mkF me_ 228 #[.val (.int p0), .val (.int p1), .val (.int p2), .val (.int p3), .val (.int (p0 &&& (3 : Int32))), .val (.int (p1 &&& (3 : Int32))), .val (.int (p2 &&& (3 : Int32))), .val (.int (p3 &&& (3 : Int32))), .val (.ref b1), .val (.int u22), .val (.ref b2), .val (.int (1 : Int32))] [])
        refine Goes.go (fun _ => XS.iconst S.here B.x rfl (B.d at_228)) ?_
        show Goes _ _ _ _ T (mkF me_ 229 #[.val (.int p0), .val (.int p1), .val (.int p2), .val (.int p3), .val (.int (p0 &&& (3 : Int32))), .val (.int (p1 &&& (3 : Int32))), .val (.int (p2 &&& (3 : Int32))), .val (.int (p3 &&& (3 : Int32))), .val (.ref b1), .val (.int u22), .val (.ref b2), .val (.int (1 : Int32))] [(.int (1 : Int32))])
        refine Goes.go (fun _ => XS.goto S.here B.x rfl (pc0 := 229) (pc' := 233) rfl (B.d at_229) (by decide) (by decide)) ?_
        show Goes _ _ _ _ T (mkF me_ 233 #[.val (.int p0), .val (.int p1), .val (.int p2), .val (.int p3), .val (.int (p0 &&& (3 : Int32))), .val (.int (p1 &&& (3 : Int32))), .val (.int (p2 &&& (3 : Int32))), .val (.int (p3 &&& (3 : Int32))), .val (.ref b1), .val (.int u22), .val (.ref b2), .val (.int (1 : Int32))] [(.int (1 : Int32))])
        refine Goes.go (fun _ => XS.istore S.here B.x rfl (B.d at_233) rfl (l' := #[.val (.int p0), .val (.int p1), .val (.int p2), .val (.int p3), .val (.int (p0 &&& (3 : Int32))), .val (.int (p1 &&& (3 : Int32))), .val (.int (p2 &&& (3 : Int32))), .val (.int (p3 &&& (3 : Int32))), .val (.ref b1), .val (.int u22), .val (.ref b2), .val (.int (1 : Int32))]) rfl) ?_
        show Goes _ _ _ _ T (mkF me_ 235 #[.val (.int p0), .val (.int p1), .val (.int p2), .val (.int p3), .val (.int (p0 &&& (3 : Int32))), .val (.int (p1 &&& (3 : Int32))), .val (.int (p2 &&& (3 : Int32))), .val (.int (p3 &&& (3 : Int32))), .val (.ref b1), .val (.int u22), .val (.ref b2), .val (.int (1 : Int32))] [])
        refine Goes.go (fun _ => XS.iload S.here B.x rfl (B.d at_235) rfl) ?_
        show Goes _ _ _ _ T (mkF me_ 237 #[.val (.int p0), .val (.int p1), .val (.int p2), .val (.int p3), .val (.int (p0 &&& (3 : Int32))), .val (.int (p1 &&& (3 : Int32))), .val (.int (p2 &&& (3 : Int32))), .val (.int (p3 &&& (3 : Int32))), .val (.ref b1), .val (.int u22), .val (.ref b2), .val (.int (1 : Int32))] [(.int (1 : Int32))])
        refine Goes.retN S B (by simp) at_237 (by decide) (by decide) ?_
        exact rfl
      · skip
        refine Goes.go (fun _ => XS.icmpYes S.here B.x rfl (pc0 := 207) (pc' := 235) rfl (B.d at_207) rfl (flt hc207).2.2.2 (by decide) (by decide)) ?_
        show Goes _ _ _ _ T (mkF me_ 235 #[.val (.int p0), .val (.int p1), .val (.int p2), .val (.int p3), .val (.int (p0 &&& (3 : Int32))), .val (.int (p1 &&& (3 : Int32))), .val (.int (p2 &&& (3 : Int32))), .val (.int (p3 &&& (3 : Int32))), .val (.ref b1), .val (.int u22), .val (.ref b2), .val (.int (1 : Int32))] [])
        refine Goes.go (fun _ => XS.iload S.here B.x rfl (B.d at_235) rfl) ?_
        show Goes _ _ _ _ T (mkF me_ 237 #[.val (.int p0), .val (.int p1), .val (.int p2), .val (.int p3), .val (.int (p0 &&& (3 : Int32))), .val (.int (p1 &&& (3 : Int32))), .val (.int (p2 &&& (3 : Int32))), .val (.int (p3 &&& (3 : Int32))), .val (.ref b1), .val (.int u22), .val (.ref b2), .val (.int (1 : Int32))] [(.int (1 : Int32))])
        refine Goes.retN S B (by simp) at_237 (by decide) (by decide) ?_
        exact rfl
  · skip
    refine Goes.go (fun _ => XS.icmpYes S.here B.x rfl (pc0 := 145) (pc' := 173) rfl (B.d at_145) rfl (flt hc145).2.2.2 (by decide) (by decide)) ?_
    show Goes _ _ _ _ T (mkF me_ 173 #[.val (.int p0), .val (.int p1), .val (.int p2), .val (.int p3), .val (.int (p0 &&& (3 : Int32))), .val (.int (p1 &&& (3 : Int32))), .val (.int (p2 &&& (3 : Int32))), .val (.int (p3 &&& (3 : Int32))), .val (.ref b1), .val (.int u22), .val (.ref b2), .val (.int (1 : Int32))] [])
    refine Goes.go (fun _ => XS.iload S.here B.x rfl (B.d at_173) rfl) ?_
    show Goes _ _ _ _ T (mkF me_ 175 #[.val (.int p0), .val (.int p1), .val (.int p2), .val (.int p3), .val (.int (p0 &&& (3 : Int32))), .val (.int (p1 &&& (3 : Int32))), .val (.int (p2 &&& (3 : Int32))), .val (.int (p3 &&& (3 : Int32))), .val (.ref b1), .val (.int u22), .val (.ref b2), .val (.int (1 : Int32))] [(.int u22)])
    refine Goes.go (fun _ => XS.iconst S.here B.x rfl (B.d at_175)) ?_
    show Goes _ _ _ _ T (mkF me_ 176 #[.val (.int p0), .val (.int p1), .val (.int p2), .val (.int p3), .val (.int (p0 &&& (3 : Int32))), .val (.int (p1 &&& (3 : Int32))), .val (.int (p2 &&& (3 : Int32))), .val (.int (p3 &&& (3 : Int32))), .val (.ref b1), .val (.int u22), .val (.ref b2), .val (.int (1 : Int32))] [(.int (2 : Int32)), (.int u22)])
    by_cases hc176 : (2 : Int32) < u22
    · skip
      refine Goes.go (fun _ => XS.icmpNo S.here B.x rfl (B.d at_176) rfl (tlt hc176).2.2.2) ?_
      show Goes _ _ _ _ T (mkF me_ 179 #[.val (.int p0), .val (.int p1), .val (.int p2), .val (.int p3), .val (.int (p0 &&& (3 : Int32))), .val (.int (p1 &&& (3 : Int32))), .val (.int (p2 &&& (3 : Int32))), .val (.int (p3 &&& (3 : Int32))), .val (.ref b1), .val (.int u22), .val (.ref b2), .val (.int (1 : Int32))] [])
      refine Goes.go (fun _ => XS.iload S.here B.x rfl (B.d at_179) rfl) ?_
      show Goes _ _ _ _ T (mkF me_ 181 #[.val (.int p0), .val (.int p1), .val (.int p2), .val (.int p3), .val (.int (p0 &&& (3 : Int32))), .val (.int (p1 &&& (3 : Int32))), .val (.int (p2 &&& (3 : Int32))), .val (.int (p3 &&& (3 : Int32))), .val (.ref b1), .val (.int u22), .val (.ref b2), .val (.int (1 : Int32))] [(.int (1 : Int32))])
      refine Goes.go (fun _ => XS.ifNo S.here B.x rfl (B.d at_181) rfl (by decide)) ?_
      show Goes _ _ _ _ T (mkF me_ 184 #[.val (.int p0), .val (.int p1), .val (.int p2), .val (.int p3), .val (.int (p0 &&& (3 : Int32))), .val (.int (p1 &&& (3 : Int32))), .val (.int (p2 &&& (3 : Int32))), .val (.int (p3 &&& (3 : Int32))), .val (.ref b1), .val (.int u22), .val (.ref b2), .val (.int (1 : Int32))] [])
      refine Goes.go (fun _ => XS.aload S.here B.x rfl (B.d at_184) rfl rfl) ?_
      show Goes _ _ _ _ T (mkF me_ 186 #[.val (.int p0), .val (.int p1), .val (.int p2), .val (.int p3), .val (.int (p0 &&& (3 : Int32))), .val (.int (p1 &&& (3 : Int32))), .val (.int (p2 &&& (3 : Int32))), .val (.int (p3 &&& (3 : Int32))), .val (.ref b1), .val (.int u22), .val (.ref b2), .val (.int (1 : Int32))] [(.ref b2)])
      refine Goes.go (fun _ => XS.iconst S.here B.x rfl (B.d at_186)) ?_
      show Goes _ _ _ _ T (mkF me_ 187 #[.val (.int p0), .val (.int p1), .val (.int p2), .val (.int p3), .val (.int (p0 &&& (3 : Int32))), .val (.int (p1 &&& (3 : Int32))), .val (.int (p2 &&& (3 : Int32))), .val (.int (p3 &&& (3 : Int32))), .val (.ref b1), .val (.int u22), .val (.ref b2), .val (.int (1 : Int32))] [(.int (2 : Int32)), (.ref b2)])
      refine Goes.callV (argsL := [(.int (2 : Int32))]) (rest := []) (W := 0) S B (rm_get l Z aw hw b2 (2 : Int32) b3 (4 : Int32).toNatClampNeg u20 _ n0 F_b2_items A_b3 (by decide) (by decide)) E_b2 (w31 hw) (w32 hw) (w34 hw) (w33 hw) (w3 hw) (w35 hw) (by decide) (by decide) (by decide) (by decide) (by decide) rfl (lenOf pd_3 rfl) rfl (Nat.le_of_eq rfl) at_187 ?_
      intro v T h S hQ
      obtain ⟨rfl, hh⟩ := hQ
      replace hh := hh.symm
      subst hh
      show Goes _ _ _ _ T (mkF me_ 190 #[.val (.int p0), .val (.int p1), .val (.int p2), .val (.int p3), .val (.int (p0 &&& (3 : Int32))), .val (.int (p1 &&& (3 : Int32))), .val (.int (p2 &&& (3 : Int32))), .val (.int (p3 &&& (3 : Int32))), .val (.ref b1), .val (.int u22), .val (.ref b2), .val (.int (1 : Int32))] [(.int (u20 (2 : Int32).toNatClampNeg))])
      refine Goes.go (fun _ => XS.aload S.here B.x rfl (B.d at_190) rfl rfl) ?_
      show Goes _ _ _ _ T (mkF me_ 192 #[.val (.int p0), .val (.int p1), .val (.int p2), .val (.int p3), .val (.int (p0 &&& (3 : Int32))), .val (.int (p1 &&& (3 : Int32))), .val (.int (p2 &&& (3 : Int32))), .val (.int (p3 &&& (3 : Int32))), .val (.ref b1), .val (.int u22), .val (.ref b2), .val (.int (1 : Int32))] [(.ref b1), (.int (u20 (2 : Int32).toNatClampNeg))])
      refine Goes.go (fun _ => XS.iconst S.here B.x rfl (B.d at_192)) ?_
      show Goes _ _ _ _ T (mkF me_ 193 #[.val (.int p0), .val (.int p1), .val (.int p2), .val (.int p3), .val (.int (p0 &&& (3 : Int32))), .val (.int (p1 &&& (3 : Int32))), .val (.int (p2 &&& (3 : Int32))), .val (.int (p3 &&& (3 : Int32))), .val (.ref b1), .val (.int u22), .val (.ref b2), .val (.int (1 : Int32))] [(.int (2 : Int32)), (.ref b1), (.int (u20 (2 : Int32).toNatClampNeg))])
      refine Goes.iaload S B A_b1 (by decide) (by decide) at_193 (v := (.int (u23 2))) rfl ?_
      show Goes _ _ _ _ T (mkF me_ 194 #[.val (.int p0), .val (.int p1), .val (.int p2), .val (.int p3), .val (.int (p0 &&& (3 : Int32))), .val (.int (p1 &&& (3 : Int32))), .val (.int (p2 &&& (3 : Int32))), .val (.int (p3 &&& (3 : Int32))), .val (.ref b1), .val (.int u22), .val (.ref b2), .val (.int (1 : Int32))] [(.int (u23 2)), (.int (u20 (2 : Int32).toNatClampNeg))])
      refine Goes.go (fun _ => XS.icmpNo S.here B.x rfl (B.d at_194) rfl (teq (show (u20 (2 : Int32).toNatClampNeg) = (u23 2) from own_at hI4 2 2 (by decide) hc176)).2) ?_
      show Goes _ _ _ _ T (mkF me_ 197 #[.val (.int p0), .val (.int p1), .val (.int p2), .val (.int p3), .val (.int (p0 &&& (3 : Int32))), .val (.int (p1 &&& (3 : Int32))), .val (.int (p2 &&& (3 : Int32))), .val (.int (p3 &&& (3 : Int32))), .val (.ref b1), .val (.int u22), .val (.ref b2), .val (.int (1 : Int32))] [])
      refine Goes.go (fun _ => XS.iconst S.here B.x rfl (B.d at_197)) ?_
      show Goes _ _ _ _ T (mkF me_ 198 #[.val (.int p0), .val (.int p1), .val (.int p2), .val (.int p3), .val (.int (p0 &&& (3 : Int32))), .val (.int (p1 &&& (3 : Int32))), .val (.int (p2 &&& (3 : Int32))), .val (.int (p3 &&& (3 : Int32))), .val (.ref b1), .val (.int u22), .val (.ref b2), .val (.int (1 : Int32))] [(.int (1 : Int32))])
      refine Goes.go (fun _ => XS.goto S.here B.x rfl (pc0 := 198) (pc' := 202) rfl (B.d at_198) (by decide) (by decide)) ?_
      show Goes _ _ _ _ T (mkF me_ 202 #[.val (.int p0), .val (.int p1), .val (.int p2), .val (.int p3), .val (.int (p0 &&& (3 : Int32))), .val (.int (p1 &&& (3 : Int32))), .val (.int (p2 &&& (3 : Int32))), .val (.int (p3 &&& (3 : Int32))), .val (.ref b1), .val (.int u22), .val (.ref b2), .val (.int (1 : Int32))] [(.int (1 : Int32))])
      refine Goes.go (fun _ => XS.istore S.here B.x rfl (B.d at_202) rfl (l' := #[.val (.int p0), .val (.int p1), .val (.int p2), .val (.int p3), .val (.int (p0 &&& (3 : Int32))), .val (.int (p1 &&& (3 : Int32))), .val (.int (p2 &&& (3 : Int32))), .val (.int (p3 &&& (3 : Int32))), .val (.ref b1), .val (.int u22), .val (.ref b2), .val (.int (1 : Int32))]) rfl) ?_
      show Goes _ _ _ _ T (mkF me_ 204 #[.val (.int p0), .val (.int p1), .val (.int p2), .val (.int p3), .val (.int (p0 &&& (3 : Int32))), .val (.int (p1 &&& (3 : Int32))), .val (.int (p2 &&& (3 : Int32))), .val (.int (p3 &&& (3 : Int32))), .val (.ref b1), .val (.int u22), .val (.ref b2), .val (.int (1 : Int32))] [])
      refine Goes.go (fun _ => XS.iload S.here B.x rfl (B.d at_204) rfl) ?_
      show Goes _ _ _ _ T (mkF me_ 206 #[.val (.int p0), .val (.int p1), .val (.int p2), .val (.int p3), .val (.int (p0 &&& (3 : Int32))), .val (.int (p1 &&& (3 : Int32))), .val (.int (p2 &&& (3 : Int32))), .val (.int (p3 &&& (3 : Int32))), .val (.ref b1), .val (.int u22), .val (.ref b2), .val (.int (1 : Int32))] [(.int u22)])
      refine Goes.go (fun _ => XS.iconst S.here B.x rfl (B.d at_206)) ?_
      show Goes _ _ _ _ T (mkF me_ 207 #[.val (.int p0), .val (.int p1), .val (.int p2), .val (.int p3), .val (.int (p0 &&& (3 : Int32))), .val (.int (p1 &&& (3 : Int32))), .val (.int (p2 &&& (3 : Int32))), .val (.int (p3 &&& (3 : Int32))), .val (.ref b1), .val (.int u22), .val (.ref b2), .val (.int (1 : Int32))] [(.int (3 : Int32)), (.int u22)])
      by_cases hc207 : (3 : Int32) < u22
      · skip
        refine Goes.go (fun _ => XS.icmpNo S.here B.x rfl (B.d at_207) rfl (tlt hc207).2.2.2) ?_
        show Goes _ _ _ _ T (mkF me_ 210 #[.val (.int p0), .val (.int p1), .val (.int p2), .val (.int p3), .val (.int (p0 &&& (3 : Int32))), .val (.int (p1 &&& (3 : Int32))), .val (.int (p2 &&& (3 : Int32))), .val (.int (p3 &&& (3 : Int32))), .val (.ref b1), .val (.int u22), .val (.ref b2), .val (.int (1 : Int32))] [])
        refine Goes.go (fun _ => XS.iload S.here B.x rfl (B.d at_210) rfl) ?_
        show Goes _ _ _ _ T (mkF me_ 212 #[.val (.int p0), .val (.int p1), .val (.int p2), .val (.int p3), .val (.int (p0 &&& (3 : Int32))), .val (.int (p1 &&& (3 : Int32))), .val (.int (p2 &&& (3 : Int32))), .val (.int (p3 &&& (3 : Int32))), .val (.ref b1), .val (.int u22), .val (.ref b2), .val (.int (1 : Int32))] [(.int (1 : Int32))])
        refine Goes.go (fun _ => XS.ifNo S.here B.x rfl (B.d at_212) rfl (by decide)) ?_
        show Goes _ _ _ _ T (mkF me_ 215 #[.val (.int p0), .val (.int p1), .val (.int p2), .val (.int p3), .val (.int (p0 &&& (3 : Int32))), .val (.int (p1 &&& (3 : Int32))), .val (.int (p2 &&& (3 : Int32))), .val (.int (p3 &&& (3 : Int32))), .val (.ref b1), .val (.int u22), .val (.ref b2), .val (.int (1 : Int32))] [])
        refine Goes.go (fun _ => XS.aload S.here B.x rfl (B.d at_215) rfl rfl) ?_
        show Goes _ _ _ _ T (mkF me_ 217 #[.val (.int p0), .val (.int p1), .val (.int p2), .val (.int p3), .val (.int (p0 &&& (3 : Int32))), .val (.int (p1 &&& (3 : Int32))), .val (.int (p2 &&& (3 : Int32))), .val (.int (p3 &&& (3 : Int32))), .val (.ref b1), .val (.int u22), .val (.ref b2), .val (.int (1 : Int32))] [(.ref b2)])
        refine Goes.go (fun _ => XS.iconst S.here B.x rfl (B.d at_217)) ?_
        show Goes _ _ _ _ T (mkF me_ 218 #[.val (.int p0), .val (.int p1), .val (.int p2), .val (.int p3), .val (.int (p0 &&& (3 : Int32))), .val (.int (p1 &&& (3 : Int32))), .val (.int (p2 &&& (3 : Int32))), .val (.int (p3 &&& (3 : Int32))), .val (.ref b1), .val (.int u22), .val (.ref b2), .val (.int (1 : Int32))] [(.int (3 : Int32)), (.ref b2)])
        refine Goes.callV (argsL := [(.int (3 : Int32))]) (rest := []) (W := 0) S B (rm_get l Z aw hw b2 (3 : Int32) b3 (4 : Int32).toNatClampNeg u20 _ n0 F_b2_items A_b3 (by decide) (by decide)) E_b2 (w31 hw) (w32 hw) (w34 hw) (w33 hw) (w3 hw) (w35 hw) (by decide) (by decide) (by decide) (by decide) (by decide) rfl (lenOf pd_3 rfl) rfl (Nat.le_of_eq rfl) at_218 ?_
        intro v T h S hQ
        obtain ⟨rfl, hh⟩ := hQ
        replace hh := hh.symm
        subst hh
        show Goes _ _ _ _ T (mkF me_ 221 #[.val (.int p0), .val (.int p1), .val (.int p2), .val (.int p3), .val (.int (p0 &&& (3 : Int32))), .val (.int (p1 &&& (3 : Int32))), .val (.int (p2 &&& (3 : Int32))), .val (.int (p3 &&& (3 : Int32))), .val (.ref b1), .val (.int u22), .val (.ref b2), .val (.int (1 : Int32))] [(.int (u20 (3 : Int32).toNatClampNeg))])
        refine Goes.go (fun _ => XS.aload S.here B.x rfl (B.d at_221) rfl rfl) ?_
        show Goes _ _ _ _ T (mkF me_ 223 #[.val (.int p0), .val (.int p1), .val (.int p2), .val (.int p3), .val (.int (p0 &&& (3 : Int32))), .val (.int (p1 &&& (3 : Int32))), .val (.int (p2 &&& (3 : Int32))), .val (.int (p3 &&& (3 : Int32))), .val (.ref b1), .val (.int u22), .val (.ref b2), .val (.int (1 : Int32))] [(.ref b1), (.int (u20 (3 : Int32).toNatClampNeg))])
        refine Goes.go (fun _ => XS.iconst S.here B.x rfl (B.d at_223)) ?_
        show Goes _ _ _ _ T (mkF me_ 224 #[.val (.int p0), .val (.int p1), .val (.int p2), .val (.int p3), .val (.int (p0 &&& (3 : Int32))), .val (.int (p1 &&& (3 : Int32))), .val (.int (p2 &&& (3 : Int32))), .val (.int (p3 &&& (3 : Int32))), .val (.ref b1), .val (.int u22), .val (.ref b2), .val (.int (1 : Int32))] [(.int (3 : Int32)), (.ref b1), (.int (u20 (3 : Int32).toNatClampNeg))])
        refine Goes.iaload S B A_b1 (by decide) (by decide) at_224 (v := (.int (u23 3))) rfl ?_
        show Goes _ _ _ _ T (mkF me_ 225 #[.val (.int p0), .val (.int p1), .val (.int p2), .val (.int p3), .val (.int (p0 &&& (3 : Int32))), .val (.int (p1 &&& (3 : Int32))), .val (.int (p2 &&& (3 : Int32))), .val (.int (p3 &&& (3 : Int32))), .val (.ref b1), .val (.int u22), .val (.ref b2), .val (.int (1 : Int32))] [(.int (u23 3)), (.int (u20 (3 : Int32).toNatClampNeg))])
        refine Goes.go (fun _ => XS.icmpNo S.here B.x rfl (B.d at_225) rfl (teq (show (u20 (3 : Int32).toNatClampNeg) = (u23 3) from own_at hI4 3 3 (by decide) hc207)).2) ?_
        show Goes _ _ _ _ T (mkF me_ 228 #[.val (.int p0), .val (.int p1), .val (.int p2), .val (.int p3), .val (.int (p0 &&& (3 : Int32))), .val (.int (p1 &&& (3 : Int32))), .val (.int (p2 &&& (3 : Int32))), .val (.int (p3 &&& (3 : Int32))), .val (.ref b1), .val (.int u22), .val (.ref b2), .val (.int (1 : Int32))] [])
        refine Goes.go (fun _ => XS.iconst S.here B.x rfl (B.d at_228)) ?_
        show Goes _ _ _ _ T (mkF me_ 229 #[.val (.int p0), .val (.int p1), .val (.int p2), .val (.int p3), .val (.int (p0 &&& (3 : Int32))), .val (.int (p1 &&& (3 : Int32))), .val (.int (p2 &&& (3 : Int32))), .val (.int (p3 &&& (3 : Int32))), .val (.ref b1), .val (.int u22), .val (.ref b2), .val (.int (1 : Int32))] [(.int (1 : Int32))])
        refine Goes.go (fun _ => XS.goto S.here B.x rfl (pc0 := 229) (pc' := 233) rfl (B.d at_229) (by decide) (by decide)) ?_
        show Goes _ _ _ _ T (mkF me_ 233 #[.val (.int p0), .val (.int p1), .val (.int p2), .val (.int p3), .val (.int (p0 &&& (3 : Int32))), .val (.int (p1 &&& (3 : Int32))), .val (.int (p2 &&& (3 : Int32))), .val (.int (p3 &&& (3 : Int32))), .val (.ref b1), .val (.int u22), .val (.ref b2), .val (.int (1 : Int32))] [(.int (1 : Int32))])
        refine Goes.go (fun _ => XS.istore S.here B.x rfl (B.d at_233) rfl (l' := #[.val (.int p0), .val (.int p1), .val (.int p2), .val (.int p3), .val (.int (p0 &&& (3 : Int32))), .val (.int (p1 &&& (3 : Int32))), .val (.int (p2 &&& (3 : Int32))), .val (.int (p3 &&& (3 : Int32))), .val (.ref b1), .val (.int u22), .val (.ref b2), .val (.int (1 : Int32))]) rfl) ?_
        show Goes _ _ _ _ T (mkF me_ 235 #[.val (.int p0), .val (.int p1), .val (.int p2), .val (.int p3), .val (.int (p0 &&& (3 : Int32))), .val (.int (p1 &&& (3 : Int32))), .val (.int (p2 &&& (3 : Int32))), .val (.int (p3 &&& (3 : Int32))), .val (.ref b1), .val (.int u22), .val (.ref b2), .val (.int (1 : Int32))] [])
        refine Goes.go (fun _ => XS.iload S.here B.x rfl (B.d at_235) rfl) ?_
        show Goes _ _ _ _ T (mkF me_ 237 #[.val (.int p0), .val (.int p1), .val (.int p2), .val (.int p3), .val (.int (p0 &&& (3 : Int32))), .val (.int (p1 &&& (3 : Int32))), .val (.int (p2 &&& (3 : Int32))), .val (.int (p3 &&& (3 : Int32))), .val (.ref b1), .val (.int u22), .val (.ref b2), .val (.int (1 : Int32))] [(.int (1 : Int32))])
        refine Goes.retN S B (by simp) at_237 (by decide) (by decide) ?_
        exact rfl
      · skip
        refine Goes.go (fun _ => XS.icmpYes S.here B.x rfl (pc0 := 207) (pc' := 235) rfl (B.d at_207) rfl (flt hc207).2.2.2 (by decide) (by decide)) ?_
        show Goes _ _ _ _ T (mkF me_ 235 #[.val (.int p0), .val (.int p1), .val (.int p2), .val (.int p3), .val (.int (p0 &&& (3 : Int32))), .val (.int (p1 &&& (3 : Int32))), .val (.int (p2 &&& (3 : Int32))), .val (.int (p3 &&& (3 : Int32))), .val (.ref b1), .val (.int u22), .val (.ref b2), .val (.int (1 : Int32))] [])
        refine Goes.go (fun _ => XS.iload S.here B.x rfl (B.d at_235) rfl) ?_
        show Goes _ _ _ _ T (mkF me_ 237 #[.val (.int p0), .val (.int p1), .val (.int p2), .val (.int p3), .val (.int (p0 &&& (3 : Int32))), .val (.int (p1 &&& (3 : Int32))), .val (.int (p2 &&& (3 : Int32))), .val (.int (p3 &&& (3 : Int32))), .val (.ref b1), .val (.int u22), .val (.ref b2), .val (.int (1 : Int32))] [(.int (1 : Int32))])
        refine Goes.retN S B (by simp) at_237 (by decide) (by decide) ?_
        exact rfl
    · skip
      refine Goes.go (fun _ => XS.icmpYes S.here B.x rfl (pc0 := 176) (pc' := 204) rfl (B.d at_176) rfl (flt hc176).2.2.2 (by decide) (by decide)) ?_
      show Goes _ _ _ _ T (mkF me_ 204 #[.val (.int p0), .val (.int p1), .val (.int p2), .val (.int p3), .val (.int (p0 &&& (3 : Int32))), .val (.int (p1 &&& (3 : Int32))), .val (.int (p2 &&& (3 : Int32))), .val (.int (p3 &&& (3 : Int32))), .val (.ref b1), .val (.int u22), .val (.ref b2), .val (.int (1 : Int32))] [])
      refine Goes.go (fun _ => XS.iload S.here B.x rfl (B.d at_204) rfl) ?_
      show Goes _ _ _ _ T (mkF me_ 206 #[.val (.int p0), .val (.int p1), .val (.int p2), .val (.int p3), .val (.int (p0 &&& (3 : Int32))), .val (.int (p1 &&& (3 : Int32))), .val (.int (p2 &&& (3 : Int32))), .val (.int (p3 &&& (3 : Int32))), .val (.ref b1), .val (.int u22), .val (.ref b2), .val (.int (1 : Int32))] [(.int u22)])
      refine Goes.go (fun _ => XS.iconst S.here B.x rfl (B.d at_206)) ?_
      show Goes _ _ _ _ T (mkF me_ 207 #[.val (.int p0), .val (.int p1), .val (.int p2), .val (.int p3), .val (.int (p0 &&& (3 : Int32))), .val (.int (p1 &&& (3 : Int32))), .val (.int (p2 &&& (3 : Int32))), .val (.int (p3 &&& (3 : Int32))), .val (.ref b1), .val (.int u22), .val (.ref b2), .val (.int (1 : Int32))] [(.int (3 : Int32)), (.int u22)])
      by_cases hc207 : (3 : Int32) < u22
      · skip
        refine Goes.go (fun _ => XS.icmpNo S.here B.x rfl (B.d at_207) rfl (tlt hc207).2.2.2) ?_
        show Goes _ _ _ _ T (mkF me_ 210 #[.val (.int p0), .val (.int p1), .val (.int p2), .val (.int p3), .val (.int (p0 &&& (3 : Int32))), .val (.int (p1 &&& (3 : Int32))), .val (.int (p2 &&& (3 : Int32))), .val (.int (p3 &&& (3 : Int32))), .val (.ref b1), .val (.int u22), .val (.ref b2), .val (.int (1 : Int32))] [])
        refine Goes.go (fun _ => XS.iload S.here B.x rfl (B.d at_210) rfl) ?_
        show Goes _ _ _ _ T (mkF me_ 212 #[.val (.int p0), .val (.int p1), .val (.int p2), .val (.int p3), .val (.int (p0 &&& (3 : Int32))), .val (.int (p1 &&& (3 : Int32))), .val (.int (p2 &&& (3 : Int32))), .val (.int (p3 &&& (3 : Int32))), .val (.ref b1), .val (.int u22), .val (.ref b2), .val (.int (1 : Int32))] [(.int (1 : Int32))])
        refine Goes.go (fun _ => XS.ifNo S.here B.x rfl (B.d at_212) rfl (by decide)) ?_
        show Goes _ _ _ _ T (mkF me_ 215 #[.val (.int p0), .val (.int p1), .val (.int p2), .val (.int p3), .val (.int (p0 &&& (3 : Int32))), .val (.int (p1 &&& (3 : Int32))), .val (.int (p2 &&& (3 : Int32))), .val (.int (p3 &&& (3 : Int32))), .val (.ref b1), .val (.int u22), .val (.ref b2), .val (.int (1 : Int32))] [])
        refine Goes.go (fun _ => XS.aload S.here B.x rfl (B.d at_215) rfl rfl) ?_
        show Goes _ _ _ _ T (mkF me_ 217 #[.val (.int p0), .val (.int p1), .val (.int p2), .val (.int p3), .val (.int (p0 &&& (3 : Int32))), .val (.int (p1 &&& (3 : Int32))), .val (.int (p2 &&& (3 : Int32))), .val (.int (p3 &&& (3 : Int32))), .val (.ref b1), .val (.int u22), .val (.ref b2), .val (.int (1 : Int32))] [(.ref b2)])
        refine Goes.go (fun _ => XS.iconst S.here B.x rfl (B.d at_217)) ?_
        show Goes _ _ _ _ T (mkF me_ 218 #[.val (.int p0), .val (.int p1), .val (.int p2), .val (.int p3), .val (.int (p0 &&& (3 : Int32))), .val (.int (p1 &&& (3 : Int32))), .val (.int (p2 &&& (3 : Int32))), .val (.int (p3 &&& (3 : Int32))), .val (.ref b1), .val (.int u22), .val (.ref b2), .val (.int (1 : Int32))] [(.int (3 : Int32)), (.ref b2)])
        refine Goes.callV (argsL := [(.int (3 : Int32))]) (rest := []) (W := 0) S B (rm_get l Z aw hw b2 (3 : Int32) b3 (4 : Int32).toNatClampNeg u20 _ n0 F_b2_items A_b3 (by decide) (by decide)) E_b2 (w31 hw) (w32 hw) (w34 hw) (w33 hw) (w3 hw) (w35 hw) (by decide) (by decide) (by decide) (by decide) (by decide) rfl (lenOf pd_3 rfl) rfl (Nat.le_of_eq rfl) at_218 ?_
        intro v T h S hQ
        obtain ⟨rfl, hh⟩ := hQ
        replace hh := hh.symm
        subst hh
        show Goes _ _ _ _ T (mkF me_ 221 #[.val (.int p0), .val (.int p1), .val (.int p2), .val (.int p3), .val (.int (p0 &&& (3 : Int32))), .val (.int (p1 &&& (3 : Int32))), .val (.int (p2 &&& (3 : Int32))), .val (.int (p3 &&& (3 : Int32))), .val (.ref b1), .val (.int u22), .val (.ref b2), .val (.int (1 : Int32))] [(.int (u20 (3 : Int32).toNatClampNeg))])
        refine Goes.go (fun _ => XS.aload S.here B.x rfl (B.d at_221) rfl rfl) ?_
        show Goes _ _ _ _ T (mkF me_ 223 #[.val (.int p0), .val (.int p1), .val (.int p2), .val (.int p3), .val (.int (p0 &&& (3 : Int32))), .val (.int (p1 &&& (3 : Int32))), .val (.int (p2 &&& (3 : Int32))), .val (.int (p3 &&& (3 : Int32))), .val (.ref b1), .val (.int u22), .val (.ref b2), .val (.int (1 : Int32))] [(.ref b1), (.int (u20 (3 : Int32).toNatClampNeg))])
        refine Goes.go (fun _ => XS.iconst S.here B.x rfl (B.d at_223)) ?_
        show Goes _ _ _ _ T (mkF me_ 224 #[.val (.int p0), .val (.int p1), .val (.int p2), .val (.int p3), .val (.int (p0 &&& (3 : Int32))), .val (.int (p1 &&& (3 : Int32))), .val (.int (p2 &&& (3 : Int32))), .val (.int (p3 &&& (3 : Int32))), .val (.ref b1), .val (.int u22), .val (.ref b2), .val (.int (1 : Int32))] [(.int (3 : Int32)), (.ref b1), (.int (u20 (3 : Int32).toNatClampNeg))])
        refine Goes.iaload S B A_b1 (by decide) (by decide) at_224 (v := (.int (u23 3))) rfl ?_
        show Goes _ _ _ _ T (mkF me_ 225 #[.val (.int p0), .val (.int p1), .val (.int p2), .val (.int p3), .val (.int (p0 &&& (3 : Int32))), .val (.int (p1 &&& (3 : Int32))), .val (.int (p2 &&& (3 : Int32))), .val (.int (p3 &&& (3 : Int32))), .val (.ref b1), .val (.int u22), .val (.ref b2), .val (.int (1 : Int32))] [(.int (u23 3)), (.int (u20 (3 : Int32).toNatClampNeg))])
        refine Goes.go (fun _ => XS.icmpNo S.here B.x rfl (B.d at_225) rfl (teq (show (u20 (3 : Int32).toNatClampNeg) = (u23 3) from own_at hI4 3 3 (by decide) hc207)).2) ?_
        show Goes _ _ _ _ T (mkF me_ 228 #[.val (.int p0), .val (.int p1), .val (.int p2), .val (.int p3), .val (.int (p0 &&& (3 : Int32))), .val (.int (p1 &&& (3 : Int32))), .val (.int (p2 &&& (3 : Int32))), .val (.int (p3 &&& (3 : Int32))), .val (.ref b1), .val (.int u22), .val (.ref b2), .val (.int (1 : Int32))] [])
        refine Goes.go (fun _ => XS.iconst S.here B.x rfl (B.d at_228)) ?_
        show Goes _ _ _ _ T (mkF me_ 229 #[.val (.int p0), .val (.int p1), .val (.int p2), .val (.int p3), .val (.int (p0 &&& (3 : Int32))), .val (.int (p1 &&& (3 : Int32))), .val (.int (p2 &&& (3 : Int32))), .val (.int (p3 &&& (3 : Int32))), .val (.ref b1), .val (.int u22), .val (.ref b2), .val (.int (1 : Int32))] [(.int (1 : Int32))])
        refine Goes.go (fun _ => XS.goto S.here B.x rfl (pc0 := 229) (pc' := 233) rfl (B.d at_229) (by decide) (by decide)) ?_
        show Goes _ _ _ _ T (mkF me_ 233 #[.val (.int p0), .val (.int p1), .val (.int p2), .val (.int p3), .val (.int (p0 &&& (3 : Int32))), .val (.int (p1 &&& (3 : Int32))), .val (.int (p2 &&& (3 : Int32))), .val (.int (p3 &&& (3 : Int32))), .val (.ref b1), .val (.int u22), .val (.ref b2), .val (.int (1 : Int32))] [(.int (1 : Int32))])
        refine Goes.go (fun _ => XS.istore S.here B.x rfl (B.d at_233) rfl (l' := #[.val (.int p0), .val (.int p1), .val (.int p2), .val (.int p3), .val (.int (p0 &&& (3 : Int32))), .val (.int (p1 &&& (3 : Int32))), .val (.int (p2 &&& (3 : Int32))), .val (.int (p3 &&& (3 : Int32))), .val (.ref b1), .val (.int u22), .val (.ref b2), .val (.int (1 : Int32))]) rfl) ?_
        show Goes _ _ _ _ T (mkF me_ 235 #[.val (.int p0), .val (.int p1), .val (.int p2), .val (.int p3), .val (.int (p0 &&& (3 : Int32))), .val (.int (p1 &&& (3 : Int32))), .val (.int (p2 &&& (3 : Int32))), .val (.int (p3 &&& (3 : Int32))), .val (.ref b1), .val (.int u22), .val (.ref b2), .val (.int (1 : Int32))] [])
        refine Goes.go (fun _ => XS.iload S.here B.x rfl (B.d at_235) rfl) ?_
        show Goes _ _ _ _ T (mkF me_ 237 #[.val (.int p0), .val (.int p1), .val (.int p2), .val (.int p3), .val (.int (p0 &&& (3 : Int32))), .val (.int (p1 &&& (3 : Int32))), .val (.int (p2 &&& (3 : Int32))), .val (.int (p3 &&& (3 : Int32))), .val (.ref b1), .val (.int u22), .val (.ref b2), .val (.int (1 : Int32))] [(.int (1 : Int32))])
        refine Goes.retN S B (by simp) at_237 (by decide) (by decide) ?_
        exact rfl
      · skip
        refine Goes.go (fun _ => XS.icmpYes S.here B.x rfl (pc0 := 207) (pc' := 235) rfl (B.d at_207) rfl (flt hc207).2.2.2 (by decide) (by decide)) ?_
        show Goes _ _ _ _ T (mkF me_ 235 #[.val (.int p0), .val (.int p1), .val (.int p2), .val (.int p3), .val (.int (p0 &&& (3 : Int32))), .val (.int (p1 &&& (3 : Int32))), .val (.int (p2 &&& (3 : Int32))), .val (.int (p3 &&& (3 : Int32))), .val (.ref b1), .val (.int u22), .val (.ref b2), .val (.int (1 : Int32))] [])
        refine Goes.go (fun _ => XS.iload S.here B.x rfl (B.d at_235) rfl) ?_
        show Goes _ _ _ _ T (mkF me_ 237 #[.val (.int p0), .val (.int p1), .val (.int p2), .val (.int p3), .val (.int (p0 &&& (3 : Int32))), .val (.int (p1 &&& (3 : Int32))), .val (.int (p2 &&& (3 : Int32))), .val (.int (p3 &&& (3 : Int32))), .val (.ref b1), .val (.int u22), .val (.ref b2), .val (.int (1 : Int32))] [(.int (1 : Int32))])
        refine Goes.retN S B (by simp) at_237 (by decide) (by decide) ?_
        exact rfl
set_option maxRecDepth 65536 in
set_option maxHeartbeats 40000000 in
theorem comes_1 {Post : Tables → Env → Array Value → State → Outcome → State → Prop} (hpost : ∀ tb e args s v u, (limb_1_1.after args s (.returned v) u = true ∧ limb_1_2.after args s (.returned v) u = true ∧ True) → FrameEnd s (.returned v) u (Jvm.fieldLocs frame_1_writes args s ++ Jvm.arrayLocs frame_1_arrays args s ++ Jvm.staticLocs frame_1_statics s) 16 128 → Post tb e args s (.returned v) u) :
    ArmFor flags0 classFile x code maxLocals ret World_1 tables_1 room_1 Calls_1 rest_1 Pre_1 Post := by
  intro l hfl _ _ p e ha hc hk s m args below hf hA hF happ hP
  obtain ⟨hcalls, hrest, hpre⟩ := hP
  obtain ⟨-, -, -, hnamed, -, -, -, hat⟩ := (Spec.applies_iff hf).mp happ
  obtain ⟨hg, hn⟩ := and_e (Cond.before_iff.mp (show (Jvm.Cond.and given_1 narrow_1).before args s = true from hpre))
  obtain ⟨g0, k0⟩ := and_e hg
  obtain ⟨g1, k1⟩ := and_e k0
  obtain ⟨g2, k2⟩ := and_e k1
  obtain ⟨g3, k3⟩ := and_e k2
  have g4 := k3
  obtain ⟨w0, w1, w2, w3, rfl⟩ : ∃ w0 w1 w2 w3 : Value, args = #[w0, w1, w2, w3] := by
    have hs : args.size = 4 := by simpa [Cond.value, given_1] using g0
    obtain ⟨L⟩ := args
    match L, hs with
    | [w0, w1, w2, w3], _ => exact ⟨w0, w1, w2, w3, rfl⟩
  have hw := fun d (hd : d ∈ tables_1) => atoms_spec (ws := Jvm.Cond.code x code maxLocals ret :: tables_1) hat d (List.mem_cons_of_mem _ hd)
  obtain ⟨i0, ei0⟩ := is_v g1
  obtain rfl : w0 = (.int i0) := Option.some.inj ei0
  obtain ⟨i1, ei1⟩ := is_v g2
  obtain rfl : w1 = (.int i1) := Option.some.inj ei1
  obtain ⟨i2, ei2⟩ := is_v g3
  obtain rfl : w2 = (.int i2) := Option.some.inj ei2
  obtain ⟨i3, ei3⟩ := is_v g4
  obtain rfl : w3 = (.int i3) := Option.some.inj ei3
  obtain ⟨n, o, h1, h2, h3, _, L, rfl, ⟨N, rfl⟩, hq⟩ := rm0 l s _ hw i0 i1 i2 i3 s.heap s.heap.size (Nat.le_refl _) tables_1 p e ha hc hk s m _ below hf ((Spec.applies_iff_loose hf).mp happ).1 ⟨rfl, State.Warmed39.refl s, rfl⟩ trivial
  refine ⟨n, _, h1, h2, h3, hpost _ _ _ _ _ _ ⟨Cond.after_iff.mpr rfl, Cond.after_iff.mpr (eq_i res_at (Term.int_eval (1)) rfl), trivial⟩ ⟨hq.1, hq.2.1, (hq.2.2.sift fun y hy => Or.inr (N y hy)).mono (by decide) (by decide)⟩⟩
theorem main_1_1 : Claimed_1_1 := comes_1 fun _ _ _ _ _ _ h hF => ⟨h.1, hF⟩
theorem main_1_2 : Claimed_1_2 := comes_1 fun _ _ _ _ _ _ h hF => ⟨h.2.1, hF⟩
end Jvm.Pilot.@@N@@
namespace Jvm.Pilot.@@N@@
open Jvm Jvm.ClassFile Sem Op Lib Jvm.Free Jvm.Stand Jvm.Pilot.@@N@@.Jvm.D
/-! MADE BY PROGRAM (witnessworld.py) out of the Statement's table words and the real class files: 11 classes; the members and pool entries that the words name. The judged class is class 1, her method 2. -/
namespace start1
open Jvm.ClassFile
def u (s : String) : CpInfo := .utf8 (stringToUtf16 s)
/-- a pool by its gaps: so many unusable entries, then the entry; so many at the end -/
def gap : Nat → List CpInfo → List CpInfo
  | 0, r => r
  | n + 1, r => .unusable :: gap n r
def poolList (es : List (Nat × CpInfo)) (last : Nat) : List CpInfo := es.foldr (fun e r => gap e.1 (e.2 :: r)) (gap last [])
def pool (es : List (Nat × CpInfo)) (last : Nat) : Array CpInfo := ⟨poolList es last⟩
def fileOf (pool : Array CpInfo) (this : Nat) (attrs : Array Attribute := #[]) (ms : Array MethodInfo := #[]) (fl : Nat := 33) (sup : Nat := 0) (ifs : Array Nat := #[]) (fds : Array FieldInfo := #[]) : ClassFile where
  minorVersion := 0
  majorVersion := 65
  constantPool := pool
  accessFlags := fl
  thisClass := this
  superClass := sup
  interfaces := ifs
  fields := fds
  methods := ms
  attributes := attrs
def plain (name : String) (sup : Option ClassId) : Class where
  name := name
  kind := .ordinary
  loader := none
  accessFlags := 33
  super := sup
  interfaces := #[]
  cf := none
  fields := #[]
  methods := #[]
  instanceTypes := #[]
  staticTypes := #[]
  resolved := #[]
  callSites := []
  init := .initialized
  statics := none
  mirror := none

def pool0 : Array CpInfo := pool [(5, u "<init>"), (0, u "()V"), (1, .class_ 10), (1, u "java/lang/Object")] 113

def k0c0 : Code := { maxStack := 0, maxLocals := 1, code := object_method_1_code, exceptionTable := #[], attributes := #[] }
def k0m0 : Method := { name := "<init>", desc := "()V", sig := { parameters := [], returnType := none }, accessFlags := 1, code := some k0c0 }
/-- java/lang/Object -/
def k0 : Class := { plain "java/lang/Object" none with
  accessFlags := 33
  interfaces := #[]
  cf := some (fileOf pool0 8 #[] #[{ accessFlags := 1, nameIndex := 5, descriptorIndex := 6, attributes := #[] }] 33 0 #[] #[])
  fields := #[]
  methods := #[k0m0]
  instanceTypes := #[]
  staticTypes := #[]
  resolved := Array.replicate 124 none
  statics := none }

def pool1 : Array CpInfo := pool [(2, .class_ 4), (1, u "java/lang/Object"), (0, u "<init>"), (0, u "()V"), (0, .class_ 8), (0, u "com/example/holdfast/holdfast/IndexStack"), (0, .methodref 7 10), (0, .nameAndType 5 11), (0, u "(I)V"), (0, .methodref 7 13), (0, .nameAndType 14 11), (0, u "add"), (0, .methodref 16 17), (0, .class_ 18), (0, .nameAndType 19 20), (0, u "com/example/holdfast/holdfast/IndexStackAddPinLaw"), (0, u "push"), (0, u "([III)I"), (0, .methodref 7 22), (0, .nameAndType 23 24), (0, u "size"), (0, u "()I"), (0, .methodref 7 26), (0, .nameAndType 27 28), (0, u "get"), (0, u "(I)I"), (3, u "law"), (0, u "(IIII)Z")] 4

def k1m0 : Method := { name := "<init>", desc := "()V", sig := { parameters := [], returnType := none }, accessFlags := 1, code := none }
def k1c1 : Code := { maxStack := 3, maxLocals := 3, code := method_2_code, exceptionTable := #[], attributes := #[] }
def k1m1 : Method := { name := "push", desc := "([III)I", sig := { parameters := [(.array .int), .int, .int], returnType := some .int }, accessFlags := 10, code := some k1c1 }
def k1c2 : Code := { maxStack := 3, maxLocals := 12, code := code, exceptionTable := #[], attributes := #[] }
def k1m2 : Method := { name := "law", desc := "(IIII)Z", sig := { parameters := [.int, .int, .int, .int], returnType := some .boolean }, accessFlags := 9, code := some k1c2 }
/-- com/example/holdfast/holdfast/IndexStackAddPinLaw -/
def k1 : Class := { plain "com/example/holdfast/holdfast/IndexStackAddPinLaw" (some 0) with
  accessFlags := 49
  interfaces := #[]
  cf := some (fileOf pool1 16 #[] #[{ accessFlags := 1, nameIndex := 5, descriptorIndex := 6, attributes := #[] }, { accessFlags := 10, nameIndex := 19, descriptorIndex := 20, attributes := #[] }, { accessFlags := 9, nameIndex := 32, descriptorIndex := 33, attributes := #[] }] 49 2 #[] #[])
  fields := #[]
  methods := #[k1m0, k1m1, k1m2]
  instanceTypes := #[]
  staticTypes := #[]
  resolved := Array.replicate 38 none
  statics := none }

def pool2 : Array CpInfo := pool [(1, .methodref 2 3), (0, .class_ 4), (0, .nameAndType 5 6), (0, u "java/lang/Object"), (0, u "<init>"), (0, u "()V"), (0, .fieldref 8 9), (0, .class_ 10), (0, .nameAndType 11 12), (0, u "com/example/holdfast/holdfast/IndexStack"), (0, u "items"), (0, u "[I"), (0, .fieldref 8 14), (0, .nameAndType 15 16), (0, u "held"), (0, u "[Z"), (0, .fieldref 8 18), (0, .nameAndType 19 20), (0, u "count"), (0, u "I"), (6, u "(I)V"), (2, u "add"), (4, u "()I"), (0, u "size"), (0, u "get"), (0, u "(I)I")] 4

def k2c0 : Code := { maxStack := 2, maxLocals := 2, code := prog_7_method_1_code, exceptionTable := #[], attributes := #[] }
def k2m0 : Method := { name := "<init>", desc := "(I)V", sig := { parameters := [.int], returnType := none }, accessFlags := 0, code := some k2c0 }
def k2c1 : Code := { maxStack := 5, maxLocals := 2, code := prog_7_method_2_code, exceptionTable := #[], attributes := #[] }
def k2m1 : Method := { name := "add", desc := "(I)V", sig := { parameters := [.int], returnType := none }, accessFlags := 0, code := some k2c1 }
def k2c2 : Code := { maxStack := 1, maxLocals := 1, code := prog_7_method_5_code, exceptionTable := #[], attributes := #[] }
def k2m2 : Method := { name := "size", desc := "()I", sig := { parameters := [], returnType := some .int }, accessFlags := 0, code := some k2c2 }
def k2c3 : Code := { maxStack := 2, maxLocals := 2, code := prog_7_method_6_code, exceptionTable := #[], attributes := #[] }
def k2m3 : Method := { name := "get", desc := "(I)I", sig := { parameters := [.int], returnType := some .int }, accessFlags := 0, code := some k2c3 }
/-- com/example/holdfast/holdfast/IndexStack -/
def k2 : Class := { plain "com/example/holdfast/holdfast/IndexStack" (some 0) with
  accessFlags := 48
  interfaces := #[]
  cf := some (fileOf pool2 8 #[] #[{ accessFlags := 0, nameIndex := 5, descriptorIndex := 27, attributes := #[] }, { accessFlags := 0, nameIndex := 30, descriptorIndex := 27, attributes := #[] }, { accessFlags := 0, nameIndex := 36, descriptorIndex := 35, attributes := #[] }, { accessFlags := 0, nameIndex := 37, descriptorIndex := 38, attributes := #[] }] 48 2 #[] #[{ accessFlags := 18, nameIndex := 11, descriptorIndex := 12, attributes := #[] }, { accessFlags := 18, nameIndex := 15, descriptorIndex := 16, attributes := #[] }, { accessFlags := 2, nameIndex := 19, descriptorIndex := 20, attributes := #[] }])
  fields := #[{ name := "items", type := (.array .int), accessFlags := 18, slot := 0, constantValue := 0 }, { name := "held", type := (.array .boolean), accessFlags := 18, slot := 1, constantValue := 0 }, { name := "count", type := .int, accessFlags := 2, slot := 2, constantValue := 0 }]
  methods := #[k2m0, k2m1, k2m2, k2m3]
  instanceTypes := #[(.array .int), (.array .boolean), .int]
  staticTypes := #[]
  resolved := Array.replicate 43 none
  statics := none }

def pool3 : Array CpInfo := pool [(1, u "java/lang/Cloneable"), (0, .class_ 1), (0, u "java/lang/Object"), (0, .class_ 3)] 3

/-- java/lang/Cloneable -/
def k3 : Class := { plain "java/lang/Cloneable" (some 0) with
  accessFlags := 1537
  interfaces := #[]
  cf := some (fileOf pool3 2 #[] #[] 1537 4 #[] #[])
  fields := #[]
  methods := #[]
  instanceTypes := #[]
  staticTypes := #[]
  resolved := Array.replicate 8 none
  statics := none }

def pool4 : Array CpInfo := pool [(1, u "java/io/Serializable"), (0, .class_ 1), (0, u "java/lang/Object"), (0, .class_ 3)] 3

/-- java/io/Serializable -/
def k4 : Class := { plain "java/io/Serializable" (some 0) with
  accessFlags := 1537
  interfaces := #[]
  cf := some (fileOf pool4 2 #[] #[] 1537 4 #[] #[])
  fields := #[]
  methods := #[]
  instanceTypes := #[]
  staticTypes := #[]
  resolved := Array.replicate 8 none
  statics := none }

/-- the primitive boolean -/
def k5 : Class := { plain "boolean" none with kind := .primitive 'Z', accessFlags := 0x411 }
/-- [Z -/
def k6 : Class := { plain "[Z" (some 0) with kind := .array 5 .boolean, interfaces := #[3, 4], accessFlags := 1041 }

/-- the primitive byte -/
def k7 : Class := { plain "byte" none with kind := .primitive 'B', accessFlags := 0x411 }
/-- [B -/
def k8 : Class := { plain "[B" (some 0) with kind := .array 7 .byte, interfaces := #[3, 4], accessFlags := 1041 }

/-- the primitive int -/
def k9 : Class := { plain "int" none with kind := .primitive 'I', accessFlags := 0x411 }
/-- [I -/
def k10 : Class := { plain "[I" (some 0) with kind := .array 9 .int, interfaces := #[3, 4], accessFlags := 1041 }

def heap : Heap := #[]
def classes : Array Class := #[k0, k1, k2, k3, k4, k5, k6, k7, k8, k9, k10]
def interned : List (Array UInt16 × Addr) := []
def slotsUsed : Nat := 0
def theMethod : MethodId := ⟨1, 2⟩
def args0 : Array Value := #[.int 5, .int 5, .int 5, .int 5]
def aboutOver (below : List Frame) : State where
  vm := { classes := classes, interned := interned.toArray }
  heap := heap
  slotsUsed := slotsUsed
  threads := #[{ frames := .invoking theMethod args0 :: below }]
def below0 : List Frame := [.native { method := ⟨0, 0⟩, args := #[] }]
def about1 : State := aboutOver below0
def p0 : Program := .bare "" "" ""
def e0 : Env := launch0.env 0 0 0
theorem w_frames : about1.frames = Frame.invoking theMethod args0 :: below0 := rfl
set_option maxRecDepth 65536 in
theorem w_args : argsFit about1.vm theMethod args0 = true := by decide +kernel
set_option maxRecDepth 65536 in
theorem w_heap : heapFits about1 = true := by decide +kernel
set_option maxRecDepth 65536 in
theorem w_runnable : about1.curStatus? = some .runnable := by decide +kernel
set_option maxRecDepth 65536 in
theorem w_alone : about1.alone = true := by decide +kernel
set_option maxRecDepth 65536 in
theorem w_named : about1.methodNamed? x = some theMethod := by decide +kernel
set_option maxRecDepth 65536 in
theorem w_hears : about1.hears theMethod below0 = true := by decide +kernel
set_option maxRecDepth 65536 in
theorem w_ripe : about1.ripe theMethod args0 below0 = true := by decide +kernel
theorem w_running : about1.status = .running := rfl
set_option maxRecDepth 65536 in
theorem w_room : about1.hasRoom e0.platform room_1 = true :=
  launch0.hasRoom_least _ room_1 (by decide +kernel) (by decide +kernel) (by decide +kernel) (by decide +kernel) (by decide +kernel) (by decide +kernel)
theorem allAtoms_all (ts : List Jvm.Cond) (a : Array Jvm.Value) (st : Jvm.State) : (allAtoms ts).before a st = ts.all (fun c => c.before a st) := by
  induction ts with
  | nil => rfl
  | cons c t ih =>
    show (Jvm.Cond.and c (allAtoms t)).before a st = _
    rw [Jvm.Cond.before_and, ih, List.all_cons]
def words1 : List Jvm.Cond := Jvm.Cond.code x code maxLocals ret :: tables_1
/-- a 'code' word, met by the world's own term for the bytes: nothing is compared byte by byte -/
theorem code_word {y : MethodName} {bytes : ByteArray} {mx : Nat} {rt : Option FieldType} {a : Array Value} {s : State} {m : MethodId} {meth : Method} {c : Code} (h1 : s.methodNamed? y = some m) (h2 : s.vm.method? m = some meth) (h3 : meth.code = some c) (h4 : c.code = bytes)
    (h5 : (c.maxLocals == mx && c.exceptionTable.isEmpty && decide (c.maxStack ≤ mostOperands) && decide (meth.sig.returnType = rt) && !meth.locks && decide (parseMethodDescriptor y.desc = some meth.sig)) = true) : (Jvm.Cond.code y bytes mx rt).before a s = true := by
  simp only [Bool.and_eq_true, beq_iff_eq, Bool.not_eq_true', decide_eq_true_eq] at h5
  obtain ⟨⟨⟨⟨⟨g1, g2⟩, g3⟩, g4⟩, g5⟩, g6⟩ := h5
  simp [Cond.before, Cond.holds, Cond.value, h1, h2, h3, h4, g1, g2, g3, g4, g5, g6]
def isCode : Jvm.Cond → Bool
  | .code _ _ _ _ => true
  | _ => false
theorem all_split {L : List Jvm.Cond} {P : Jvm.Cond → Bool} (h1 : L.all (fun c => isCode c || P c) = true) (h2 : ∀ c ∈ L.filter isCode, P c = true) : L.all P = true := by
  refine List.all_eq_true.mpr fun c hc => ?_
  have h := List.all_eq_true.mp h1 c hc
  rcases Bool.eq_false_or_eq_true (isCode c) with hi | hi
  · exact h2 c (List.mem_filter.mpr ⟨hc, hi⟩)
  · simpa [hi] using h
set_option maxRecDepth 65536 in
theorem w_c0 : (Jvm.Cond.code x code maxLocals ret).before args0 about1 = true := code_word (m := ⟨1, 2⟩) (meth := k1m2) (c := k1c2) (by decide +kernel) rfl rfl rfl (by decide +kernel)
set_option maxRecDepth 65536 in
theorem w_c1 : (Jvm.Cond.code ({ cls := "com/example/holdfast/holdfast/IndexStack", name := "<init>", desc := "(I)V" } : Jvm.MethodName) prog_7_method_1_code (2 : Nat) (Option.none : Option Jvm.ClassFile.FieldType)).before args0 about1 = true := code_word (m := ⟨2, 0⟩) (meth := k2m0) (c := k2c0) (by decide +kernel) rfl rfl rfl (by decide +kernel)
set_option maxRecDepth 65536 in
theorem w_c2 : (Jvm.Cond.code ({ cls := "java/lang/Object", name := "<init>", desc := "()V" } : Jvm.MethodName) object_method_1_code (1 : Nat) (Option.none : Option Jvm.ClassFile.FieldType)).before args0 about1 = true := code_word (m := ⟨0, 0⟩) (meth := k0m0) (c := k0c0) (by decide +kernel) rfl rfl rfl (by decide +kernel)
set_option maxRecDepth 65536 in
theorem w_c3 : (Jvm.Cond.code ({ cls := "com/example/holdfast/holdfast/IndexStack", name := "add", desc := "(I)V" } : Jvm.MethodName) prog_7_method_2_code (2 : Nat) (Option.none : Option Jvm.ClassFile.FieldType)).before args0 about1 = true := code_word (m := ⟨2, 1⟩) (meth := k2m1) (c := k2c1) (by decide +kernel) rfl rfl rfl (by decide +kernel)
set_option maxRecDepth 65536 in
theorem w_c4 : (Jvm.Cond.code ({ cls := "com/example/holdfast/holdfast/IndexStackAddPinLaw", name := "push", desc := "([III)I" } : Jvm.MethodName) method_2_code (3 : Nat) (Option.some Jvm.ClassFile.FieldType.int)).before args0 about1 = true := code_word (m := ⟨1, 1⟩) (meth := k1m1) (c := k1c1) (by decide +kernel) rfl rfl rfl (by decide +kernel)
set_option maxRecDepth 65536 in
theorem w_c5 : (Jvm.Cond.code ({ cls := "com/example/holdfast/holdfast/IndexStack", name := "size", desc := "()I" } : Jvm.MethodName) prog_7_method_5_code (1 : Nat) (Option.some Jvm.ClassFile.FieldType.int)).before args0 about1 = true := code_word (m := ⟨2, 2⟩) (meth := k2m2) (c := k2c2) (by decide +kernel) rfl rfl rfl (by decide +kernel)
set_option maxRecDepth 65536 in
theorem w_c6 : (Jvm.Cond.code ({ cls := "com/example/holdfast/holdfast/IndexStack", name := "get", desc := "(I)I" } : Jvm.MethodName) prog_7_method_6_code (2 : Nat) (Option.some Jvm.ClassFile.FieldType.int)).before args0 about1 = true := code_word (m := ⟨2, 3⟩) (meth := k2m3) (c := k2c3) (by decide +kernel) rfl rfl rfl (by decide +kernel)
def codes1 : List Jvm.Cond := [Jvm.Cond.code x code maxLocals ret, Jvm.Cond.code ({ cls := "com/example/holdfast/holdfast/IndexStack", name := "<init>", desc := "(I)V" } : Jvm.MethodName) prog_7_method_1_code (2 : Nat) (Option.none : Option Jvm.ClassFile.FieldType), Jvm.Cond.code ({ cls := "java/lang/Object", name := "<init>", desc := "()V" } : Jvm.MethodName) object_method_1_code (1 : Nat) (Option.none : Option Jvm.ClassFile.FieldType), Jvm.Cond.code ({ cls := "com/example/holdfast/holdfast/IndexStack", name := "add", desc := "(I)V" } : Jvm.MethodName) prog_7_method_2_code (2 : Nat) (Option.none : Option Jvm.ClassFile.FieldType), Jvm.Cond.code ({ cls := "com/example/holdfast/holdfast/IndexStackAddPinLaw", name := "push", desc := "([III)I" } : Jvm.MethodName) method_2_code (3 : Nat) (Option.some Jvm.ClassFile.FieldType.int), Jvm.Cond.code ({ cls := "com/example/holdfast/holdfast/IndexStack", name := "size", desc := "()I" } : Jvm.MethodName) prog_7_method_5_code (1 : Nat) (Option.some Jvm.ClassFile.FieldType.int), Jvm.Cond.code ({ cls := "com/example/holdfast/holdfast/IndexStack", name := "get", desc := "(I)I" } : Jvm.MethodName) prog_7_method_6_code (2 : Nat) (Option.some Jvm.ClassFile.FieldType.int)]
set_option maxRecDepth 65536 in
theorem codes_eq : words1.filter isCode = codes1 := rfl
theorem w_codes : ∀ c ∈ words1.filter isCode, c.before args0 about1 = true := by
  rw [codes_eq]
  intro c hc
  simp only [codes1, List.mem_cons, List.not_mem_nil, or_false] at hc
  rcases hc with rfl | rfl | rfl | rfl | rfl | rfl | rfl
  · exact w_c0
  · exact w_c1
  · exact w_c2
  · exact w_c3
  · exact w_c4
  · exact w_c5
  · exact w_c6
set_option maxRecDepth 65536 in
theorem w_t1 : (words1.take 24).all (fun c => isCode c || c.before args0 about1) = true := by decide +kernel
set_option maxRecDepth 65536 in
theorem w_t2 : (words1.drop 24).all (fun c => isCode c || c.before args0 about1) = true := by decide +kernel
theorem w_tables : (allAtoms (Jvm.Cond.code x code maxLocals ret :: tables_1)).before args0 about1 = true := by
  rw [allAtoms_all]
  show words1.all (fun c => c.before args0 about1) = true
  refine all_split ?_ w_codes
  rw [← List.take_append_drop 24 words1, List.all_append, w_t1, w_t2]
  rfl
set_option maxRecDepth 65536 in
theorem w_case : (Jvm.Cond.and given_1 narrow_1).before args0 about1 = true := by decide +kernel
theorem w_applies : (headSpec (Jvm.Cond.code x code maxLocals ret :: tables_1) room_1).applies x e0.platform about1 = true :=
  (Spec.applies_iff w_frames).mpr ⟨w_running, w_runnable, w_alone, w_named, w_hears, w_ripe, w_room, w_tables⟩
theorem atStart : AtStart classFile x code maxLocals ret World_1 tables_1 room_1 Calls_1 rest_1 Pre_1 launch0 p0 e0 about1 theMethod args0 below0 :=
  ⟨lists_1, trivial, launch0.admits_env _ _ _, launch0.least_env, fairChoices_fair.cas, fairChoices_fair.clock, w_frames, w_args, w_heap, w_applies, trivial, trivial, w_case⟩
end start1
theorem witness_1 : WitnessClaimed_1 := ⟨start1.p0, start1.e0, start1.about1, start1.theMethod, start1.args0, start1.below0, start1.atStart⟩
end Jvm.Pilot.@@N@@
