import JvmDerived
import JvmDerived.Pilot.@@N@@Statement
import JvmDerived.Pilot.@@N@@Code
set_option linter.unusedVariables false
set_option linter.unusedSimpArgs false
namespace Jvm.OwnKit
open Sem ClassFile Op Lib Jvm.Stand Jvm.Free Jvm.LawKit Jvm.RoadKit
/-! A small layer of my own over the library's laws: 'Goes': from this frame the body comes to its end; each law turned so that it reads backwards. -/
def Goes (tb : Tables) (e : Env) (below : List Frame) (Φ : Outcome → State → Prop) (T : State) (f : JFrame) : Prop :=
  ∃ s₂ o, Steps tb e below (T.setTop f) s₂ ∧ s₂.status = .running ∧ Ended s₂ below o ∧ Φ o s₂
def Fine (s : State) (n0 : Nat) (Q : Option Value → Heap → Prop) (rc rs : Nat) (o : Outcome) (U : State) : Prop :=
  ∃ v L, o = .returned v ∧ (Fr n0 L ∧ Q v U.heap) ∧ FrameEnd s o U L rc rs
def Base (p : Program) (s : State) (m : MethodId) (meth : Method) (c : Code) (Z : State) (y : MethodName) (bytes : ByteArray) (maxL : Nat) (ret : Option FieldType) : Prop :=
  p.tables.exec = Jvm.exec ∧ Z.Warmed39 s.vm ∧ c.code = bytes ∧ c.maxLocals = maxL ∧ s.vm.findClass y.cls = some m.cls ∧ meth.name = y.name ∧ meth.sig.returnType = ret ∧ meth.locks = false
def Sd (p : Program) (l : Launch) (e : Env) (R : Room) (s : State) (m : MethodId) (args : Array Value) (below : List Frame) (meth : Method) (c : Code) (T : State) (h : Heap) (n0 cells slots : Nat) : Prop :=
  ∃ locs, Stand p l e R s m args below meth c T locs cells slots ∧ T.heap = h ∧ Fr n0 locs ∧ n0 ≤ s.heap.size
def Con (l : Launch) (Z : State) (y : MethodName) (bytes : ByteArray) (maxL : Nat) (ret : Option FieldType) (rm : Room) (as' : Array Value) (h0 : Heap) (n0 : Nat) (Q : Option Value → Heap → Prop) : Prop :=
  n0 ≤ h0.size → ∀ ws : List Cond, MetFree l y (head1 (Cond.code y bytes maxL ret :: ws) rm) (fun a U => a = as' ∧ Z.Warmed39 U.vm ∧ U.heap = h0) (fun _ _ _ _ _ => True) (fun _ U o U' => ∃ v L, o = .returned v ∧ (Fr n0 L ∧ Q v U'.heap) ∧ FrameEnd U o U' L rm.cells rm.slots)
/-! a condition as 1 or 0 -/
def bi (P : Prop) [Decidable P] : Int32 := if P then 1 else 0
theorem bi_pos {P : Prop} [Decidable P] (h : P) : bi P = 1 := if_pos h
theorem bi_neg {P : Prop} [Decidable P] (h : ¬ P) : bi P = 0 := if_neg h
theorem bi_ne {P : Prop} [Decidable P] (h : P) : ¬ bi P = 0 := by rw [bi_pos h]; decide
theorem bi_congr {P P' : Prop} [Decidable P] [Decidable P'] (h : P ↔ P') : bi P = bi P' := by by_cases q : P <;> simp [bi, q, h.mp, ← h]
theorem bi_one {P : Prop} [Decidable P] : bi P = 1 ↔ P := by by_cases q : P <;> simp [bi, q]
theorem bi_zero {P : Prop} [Decidable P] : bi P = 0 ↔ ¬ P := by by_cases q : P <;> simp [bi, q]
theorem bi_inj {P P' : Prop} [Decidable P] [Decidable P'] : bi P = bi P' ↔ (P ↔ P') := by by_cases q : P <;> by_cases q' : P' <;> simp [bi, q, q']
theorem bi_or {P : Prop} [Decidable P] : bi P = 0 ∨ bi P = 1 := by by_cases q : P <;> simp [bi, q]
theorem nar_bi {P : Prop} [Decidable P] : nar .boolean (bi P) = bi P := by by_cases q : P <;> simp [bi, q, nar]
theorem fits_bi {P : Prop} [Decidable P] : fits .boolean (.int (bi P)) = true := by by_cases q : P <;> simp [bi, q] <;> decide
theorem narrow_bi {P : Prop} [Decidable P] : narrow .boolean (.int (bi P)) = .int (bi P) := by by_cases q : P <;> simp [bi, q] <;> rfl
section Lay
variable {p : Program} {l : Launch} {e : Env} {R : Room} {s : State} {m : MethodId} {args : Array Value} {below : List Frame} {meth : Method} {c : Code} {T : State} {h : Heap} {n0 cells slots : Nat} {Z : State} {a0 : Array Value} {Φ : Outcome → State → Prop} {y0 : MethodName} {bytes0 : ByteArray} {maxL0 : Nat} {ret0 : Option FieldType} {pc : Nat} {Ls : Array Slot} {st rest : List Value}
theorem Goes.go {tb : Tables} {T' : State} {f f' : JFrame} (k : ∀ t, Steps tb e below (T'.setTop f') t → Steps tb e below (T.setTop f) t) (g : Goes tb e below Φ T' f') : Goes tb e below Φ T f := by
  obtain ⟨s2, o, h1, h2⟩ := g
  exact ⟨s2, o, k _ h1, h2⟩
theorem Goes.dia {tb : Tables} {P : Prop} [Decidable P] {f : JFrame} {mk : Int32 → JFrame} (h1 : P → Goes tb e below Φ T (mk 1) → Goes tb e below Φ T f) (h0 : ¬ P → Goes tb e below Φ T (mk 0) → Goes tb e below Φ T f) (k : Goes tb e below Φ T (mk (bi P))) : Goes tb e below Φ T f := by
  by_cases q : P
  · rw [bi_pos q] at k; exact h1 q k
  · rw [bi_neg q] at k; exact h0 q k
theorem Goes.cast {tb : Tables} {f f' : JFrame} (q : f = f') (g : Goes tb e below Φ T f') : Goes tb e below Φ T f := q ▸ g
theorem Sd.here (S : Sd p l e R s m args below meth c T h n0 cells slots) : At T m c below := by obtain ⟨_, X, -⟩ := S; exact X.here
theorem Sd.le (S : Sd p l e R s m args below meth c T h n0 cells slots) : n0 ≤ h.size := by
  obtain ⟨_, X, e, -, q⟩ := S
  have h1 := X.same.2.1
  have h2 : s.heap.size ≤ T.heap.size := h1
  rw [e] at h2
  exact Nat.le_trans q h2
theorem Base.x (B : Base p s m meth c Z y0 bytes0 maxL0 ret0) : p.tables.exec = Jvm.exec := B.1
theorem Base.d (B : Base p s m meth c Z y0 bytes0 maxL0 ret0) {r : Except DecodeError (Instr × Nat)} (hd : decode bytes0 pc = r) : decode c.code pc = r := B.2.2.1 ▸ hd
theorem Con.body {y : MethodName} {bytes : ByteArray} {maxL : Nat} {ret : Option FieldType} {rm : Room} {as' : Array Value} {h0 : Heap} {Q : Option Value → Heap → Prop} (hpl : plainFor y = true)
    (k : ∀ (p : Program) (e : Env) (s : State) (m : MethodId) (below : List Frame) (meth : Method) (c : Code) (T : State), Base p s m meth c Z y bytes maxL ret → Sd p l e rm s m as' below meth c T h0 n0 0 0 → Goes p.tables e below (Fine s n0 Q rm.cells rm.slots) T (entryFrame m as' maxL)) :
    Con l Z y bytes maxL ret rm as' h0 n0 Q := by
  intro hn ws
  refine MetFree.of_bodySF hpl hisR ?_
  intro p e s m args below meth c s₁ Bd hml0 hP hK
  obtain ⟨rfl, hZ, hh⟩ := hP
  have e0 : s₁.heap = h0 := by rw [← hh, Bd.state]; rfl
  exact k p e s m below meth c s₁ ⟨Bd.exec, hZ, Bd.bytes, hml0, findClass_of_methodNamed Bd.named, (name_of_methodNamed Bd.named Bd.method).1, Bd.returns, Bd.notSynchronized⟩ ⟨[], Stand.of_body Bd, e0, Fr.nil n0, by rw [hh]; exact hn⟩
theorem Goes.acmp {cd : ACond} {x y : Value} {o : Int} {pc' : Nat} {same : Bool} (S : Sd p l e R s m args below meth c T h n0 cells slots) (B : Base p s m meth c Z y0 bytes0 maxL0 ret0) (h1 : x.isRef = true) (h2 : y.isRef = true) (hd : decode bytes0 pc = .ok (.if_acmp cd o, 3)) (hq : decide (x = y) = same) (ho : 0 ≤ (pc : Int) + o) (hp : pc' = if acV cd same = true then ((pc : Int) + o).toNat else pc + 3)
    (k : Goes p.tables e below Φ T (mkF m pc' Ls rest)) : Goes p.tables e below Φ T (mkF m pc Ls (y :: x :: rest)) := by
  obtain ⟨locs, X, eT, N, hn⟩ := S
  exact Goes.go (fun t => RoadKit.acmp X B.1 (g := mkF m pc Ls (y :: x :: rest)) rfl h1 h2 (pc0 := pc) (pc' := pc') (same := same) rfl (B.d hd) rfl hq ho hp) k
theorem Goes.pop2L {z : Int64} (S : Sd p l e R s m args below meth c T h n0 cells slots) (B : Base p s m meth c Z y0 bytes0 maxL0 ret0) (hd : decode bytes0 pc = .ok (.pop2, 1)) (k : Goes p.tables e below Φ T (mkF m (pc + 1) Ls rest)) : Goes p.tables e below Φ T (mkF m pc Ls (.long z :: rest)) := by
  obtain ⟨locs, X, eT, N, hn⟩ := S
  refine Goes.go (fun t kk => ?_) k
  have hx := B.1
  have hd' := B.d hd
  show Steps p.tables e below (T.setTop { method := m, pc := pc, locals := Ls, stack := _ :: rest, locked := none }) _
  jvm_step X.here [X.here.top, hx, hd', Value.category]
  exact kk
theorem Goes.irem {x y : Int32} (S : Sd p l e R s m args below meth c T h n0 cells slots) (B : Base p s m meth c Z y0 bytes0 maxL0 ret0) (hd : decode bytes0 pc = .ok (.irem, 1)) (hy : y ≠ 0) (k : Goes p.tables e below Φ T (mkF m (pc + 1) Ls (.int (x % y) :: rest))) : Goes p.tables e below Φ T (mkF m pc Ls (.int y :: .int x :: rest)) := by
  obtain ⟨locs, X, eT, N, hn⟩ := S
  exact Goes.go (fun t => RoadKit.iremM X B.1 (g := mkF m pc Ls (.int y :: .int x :: rest)) rfl (B.d hd) rfl hy) k
theorem Goes.lrem {x y : Int64} (S : Sd p l e R s m args below meth c T h n0 cells slots) (B : Base p s m meth c Z y0 bytes0 maxL0 ret0) (hd : decode bytes0 pc = .ok (.lrem, 1)) (hy : y ≠ 0) (k : Goes p.tables e below Φ T (mkF m (pc + 1) Ls (.long (x % y) :: rest))) : Goes p.tables e below Φ T (mkF m pc Ls (.long y :: .long x :: rest)) := by
  obtain ⟨locs, X, eT, N, hn⟩ := S
  refine Goes.go (fun t kk => XS.lrem X.here B.1 (g := mkF m pc Ls (.long y :: .long x :: rest)) rfl (B.d hd) rfl hy ?_) k
  rw [lrem_mod]
  exact kk
/-! the ends -/
section Ends
variable {Q : Option Value → Heap → Prop} {rc rs : Nat}
theorem Goes.retV (S : Sd p l e R s m args below meth c T h n0 cells slots) (B : Base p s m meth c Z y0 bytes0 maxL0 none) (hd : decode bytes0 pc = .ok (.return_, 1)) (hc : cells ≤ rc) (hs : slots ≤ rs) (hq : Q none h) :
    Goes p.tables e below (Fine s n0 Q rc rs) T (mkF m pc Ls []) := by
  obtain ⟨locs, X, eT, N, -⟩ := S
  obtain ⟨fs, hr, hrun, hended, hW, hsame⟩ := X.leave (v := none) (fun _ => rfl) B.2.2.2.2.2.2.2
  subst eT
  exact ⟨_, _, X.returnOut B.1 B.2.2.2.2.2.2.1 (B.d hd) hr, hrun, hended, _, _, rfl, ⟨N, hq⟩, ⟨_, rfl⟩, hW, hsame.mono hc hs⟩
theorem Goes.retN {t : FieldType} {z : Int32} (S : Sd p l e R s m args below meth c T h n0 cells slots) (B : Base p s m meth c Z y0 bytes0 maxL0 (some t)) (ht : t = .boolean ∨ t = .byte ∨ t = .char ∨ t = .short) (hd : decode bytes0 pc = .ok (.ireturn, 1)) (hc : cells ≤ rc) (hs : slots ≤ rs) (hq : Q (some (.int (nar t z))) h) :
    Goes p.tables e below (Fine s n0 Q rc rs) T (mkF m pc Ls (.int z :: rest)) := by
  obtain ⟨locs, X, eT, N, -⟩ := S
  obtain ⟨fs, hr, hrun, hended, hW, hsame⟩ := X.leave (v := some (.int (nar t z))) (fun h => by rw [B.2.2.2.2.2.2.1] at h; cases h) B.2.2.2.2.2.2.2
  subst eT
  exact ⟨_, _, RoadKit.retN X B.1 B.2.2.2.2.2.2.1 ht (B.d hd) hr, hrun, hended, _, _, rfl, ⟨N, hq⟩, ⟨_, rfl⟩, hW, hsame.mono hc hs⟩
theorem Goes.retI {z : Int32} (S : Sd p l e R s m args below meth c T h n0 cells slots) (B : Base p s m meth c Z y0 bytes0 maxL0 (some .int)) (hd : decode bytes0 pc = .ok (.ireturn, 1)) (hc : cells ≤ rc) (hs : slots ≤ rs) (hq : Q (some (.int z)) h) :
    Goes p.tables e below (Fine s n0 Q rc rs) T (mkF m pc Ls (.int z :: rest)) := by
  obtain ⟨locs, X, eT, N, -⟩ := S
  obtain ⟨fs, hr, hrun, hended, hW, hsame⟩ := X.leave (v := some (.int z)) (fun h => by rw [B.2.2.2.2.2.2.1] at h; cases h) B.2.2.2.2.2.2.2
  subst eT
  refine ⟨_, _, ?_, hrun, hended, _, _, rfl, ⟨N, hq⟩, ⟨_, rfl⟩, hW, hsame.mono hc hs⟩
  have hm' : T.vm.method? m = some meth := X.method'
  have hn : narrow .int (.int z) = .int z := rfl
  have hx := B.1
  have hret := B.2.2.2.2.2.2.1
  have hd' := B.d hd
  show Steps p.tables e below (T.setTop { method := m, pc := pc, locals := Ls, stack := _ :: rest, locked := none }) _
  jvm_step X.here [X.here.top, hx, hd', hm', hret, hn]
  first | (intro acts; rw [hr _ acts rfl rfl rfl]) | rw [hr _ _ rfl rfl rfl]
  exact Steps.refl _
theorem Goes.retL {z : Int64} (S : Sd p l e R s m args below meth c T h n0 cells slots) (B : Base p s m meth c Z y0 bytes0 maxL0 (some .long)) (hd : decode bytes0 pc = .ok (.lreturn, 1)) (hc : cells ≤ rc) (hs : slots ≤ rs) (hq : Q (some (.long z)) h) :
    Goes p.tables e below (Fine s n0 Q rc rs) T (mkF m pc Ls (.long z :: rest)) := by
  obtain ⟨locs, X, eT, N, -⟩ := S
  obtain ⟨fs, hr, hrun, hended, hW, hsame⟩ := X.leave (v := some (.long z)) (fun h => by rw [B.2.2.2.2.2.2.1] at h; cases h) B.2.2.2.2.2.2.2
  subst eT
  refine ⟨_, _, ?_, hrun, hended, _, _, rfl, ⟨N, hq⟩, ⟨_, rfl⟩, hW, hsame.mono hc hs⟩
  have hm' : T.vm.method? m = some meth := X.method'
  have hx := B.1
  have hret := B.2.2.2.2.2.2.1
  have hd' := B.d hd
  show Steps p.tables e below (T.setTop { method := m, pc := pc, locals := Ls, stack := _ :: rest, locked := none }) _
  jvm_step X.here [X.here.top, hx, hd', hm', hret, narrow]
  first | (intro acts; rw [hr _ acts rfl rfl rfl]) | rw [hr _ _ rfl rfl rfl]
  exact Steps.refl _
theorem Goes.retA {b : Addr} {t : FieldType} (S : Sd p l e R s m args below meth c T h n0 cells slots) (B : Base p s m meth c Z y0 bytes0 maxL0 (some t)) (ht : t.isReference = true) (hd : decode bytes0 pc = .ok (.areturn, 1)) (hc : cells ≤ rc) (hs : slots ≤ rs) (hq : Q (some (.ref b)) h) :
    Goes p.tables e below (Fine s n0 Q rc rs) T (mkF m pc Ls (.ref b :: rest)) := by
  obtain ⟨locs, X, eT, N, -⟩ := S
  obtain ⟨fs, hr, hrun, hended, hW, hsame⟩ := X.leave (v := some (.ref b)) (fun h => by rw [B.2.2.2.2.2.2.1] at h; cases h) B.2.2.2.2.2.2.2
  subst eT
  refine ⟨_, _, ?_, hrun, hended, _, _, rfl, ⟨N, hq⟩, ⟨_, rfl⟩, hW, hsame.mono hc hs⟩
  have hm' : T.vm.method? m = some meth := X.method'
  have hx := B.1
  have hret := B.2.2.2.2.2.2.1
  have hd' := B.d hd
  show Steps p.tables e below (T.setTop { method := m, pc := pc, locals := Ls, stack := _ :: rest, locked := none }) _
  jvm_step X.here [X.here.top, hx, hd', hm', hret, Value.isRef, ht]
  first | (intro acts; rw [hr _ acts rfl rfl rfl]) | rw [hr _ _ rfl rfl rfl]
  exact Steps.refl _
end Ends
/-! fields and objects -/
theorem Goes.getF {O n d : String} {index : Nat} {a : Addr} {v : Value} (S : Sd p l e R s m args below meth c T h n0 cells slots) (B : Base p s m meth c Z y0 bytes0 maxL0 ret0) (w : (Cond.fieldLink y0.cls index O n d).before a0 Z = true) (F : Fld Z h a O n d v) (hd : decode bytes0 pc = .ok (.getfield index, 3))
    (k : ∀ T', Sd p l e R s m args below meth c T' h n0 cells slots → Goes p.tables e below Φ T' (mkF m (pc + 3) Ls (v :: rest))) : Goes p.tables e below Φ T (mkF m pc Ls (.ref a :: rest)) := by
  obtain ⟨locs, X, eT, N, hn⟩ := S
  obtain ⟨T', X', e', stp⟩ := RoadKit.getF X B.1 B.2.1 B.2.2.2.2.1 (host := "") (Or.inl w) Via.refl eT F (g := mkF m pc Ls (.ref a :: rest)) rfl rfl (B.d hd)
  exact Goes.go stp (k T' ⟨locs, X', e', N, hn⟩)
theorem Goes.putF {O n d C : String} {index kk : Nat} {ty : FieldType} {a : Addr} {v v' old : Value} (S : Sd p l e R s m args below meth c T h n0 cells slots) (B : Base p s m meth c Z y0 bytes0 maxL0 ret0) (w : (Cond.fieldLink y0.cls index O n d).before a0 Z = true) (F : Fld Z h a O n d old) (E : Exa Z h a C)
    (L : (Cond.lays C O n d).before a0 Z = true ∨ ((Cond.laysFinal C O n d).before a0 Z = true ∧ y0.cls = O ∧ y0.name = "<init>")) (wi : (Cond.instantiable C kk).before a0 Z = true) (hty : parseFieldDescriptor d = some ty) (hnr : narrow ty v = v') (hf : fits ty v' = true) (ga : n0 ≤ a) (hd : decode bytes0 pc = .ok (.putfield index, 3))
    (k : ∀ T' h', Sd p l e R s m args below meth c T' h' n0 cells slots → Wr h h' a (RoadKit.slotOf Z O n d) v' → Goes p.tables e below Φ T' (mkF m (pc + 3) Ls rest)) : Goes p.tables e below Φ T (mkF m pc Ls (v :: .ref a :: rest)) := by
  obtain ⟨locs, X, eT, N, hn⟩ := S
  obtain ⟨T', h', X', e', W, stp⟩ := RoadKit.putFN X B.1 B.2.1 B.2.2.2.2.1 w Via.refl eT F E (L.imp id fun q => ⟨q.1, q.2.1, B.2.2.2.2.2.1.trans q.2.2⟩) wi hty hnr hf (g := mkF m pc Ls (v :: .ref a :: rest)) rfl rfl (B.d hd)
  exact Goes.go stp (k T' h' ⟨_, X', e', Fr.snoc X' N ga, hn⟩ W)
theorem Goes.newO {C : String} {index nn : Nat} (S : Sd p l e R s m args below meth c T h n0 cells slots) (B : Base p s m meth c Z y0 bytes0 maxL0 ret0) (w : (Cond.classLink y0.cls index C).before a0 Z = true) (wi : (Cond.instantiable C nn).before a0 Z = true) (wz : (Cond.initialized C).before a0 Z = true) (hd : decode bytes0 pc = .ok (.new index, 3)) (hc : cells + 1 ≤ R.cells) (hl : slots + nn ≤ R.slots)
    (k : ∀ T' h' b, Sd p l e R s m args below meth c T' h' n0 (cells + 1) (slots + nn) → Ext h h' → b = h.size → n0 ≤ b → Exa Z h' b C → (∀ {O nm d : String} {ty : FieldType}, Laid Z a0 C O nm d → parseFieldDescriptor d = some ty → Fld Z h' b O nm d (defaultValue ty)) → Goes p.tables e below Φ T' (mkF m (pc + 3) Ls (.ref b :: st))) :
    Goes p.tables e below Φ T (mkF m pc Ls st) := by
  have hle := S.le
  obtain ⟨locs, X, eT, N, hn⟩ := S
  obtain ⟨T', h', X', e', E, A, D, -, stp⟩ := RoadKit.newO X B.1 B.2.1 B.2.2.2.2.1 w wi wz eT (g := mkF m pc Ls st) rfl (B.d hd) hc hl
  exact Goes.go stp (k T' h' h.size ⟨locs, X', e', N, hn⟩ E rfl hle A D)
theorem Goes.initO {index : Nat} {a : Addr} {W : Nat} (S : Sd p l e R s m args below meth c T h n0 cells slots) (B : Base p s m meth c Z y0 bytes0 maxL0 ret0) (w1 : (Cond.methodLink y0.cls index Lib.objectInit).before a0 Z = true) (w2 : (Cond.instanceMethod Lib.objectInit).before a0 Z = true) (w3 : (Cond.code Lib.objectInit ⟨#[0xb1]⟩ 1 none).before a0 Z = true)
    (hd : decode bytes0 pc = .ok (.invokespecial index, 3)) (hsz : Ls.size = maxL0) (hf : 1 ≤ R.frames) (hW : 2 * 0 + (rest.map fun v => v.category).sum ≤ W) (hl : W + 12 ≤ R.locals)
    (k : ∀ T', Sd p l e R s m args below meth c T' h n0 cells slots → Goes p.tables e below Φ T' (mkF m (pc + 3) Ls rest)) : Goes p.tables e below Φ T (mkF m pc Ls (.ref a :: rest)) := by
  obtain ⟨locs, X, eT, N, hn⟩ := S
  obtain ⟨T', X', e', stp⟩ := RoadKit.initO X B.1 B.2.1 B.2.2.2.2.1 w1 w2 w3 eT (g := mkF m pc Ls (.ref a :: rest)) rfl (by rw [B.2.2.2.1]; exact hsz) rfl (B.d hd) hf hW hl
  exact Goes.go stp (k T' ⟨locs, X', e', N, hn⟩)
theorem Goes.ldcI {index : Nat} {v : Int32} (S : Sd p l e R s m args below meth c T h n0 cells slots) (B : Base p s m meth c Z y0 bytes0 maxL0 ret0) (w : (Cond.constant y0.cls index v).before a0 Z = true) (hd : decode bytes0 pc = .ok (.ldc index, 2)) (k : Goes p.tables e below Φ T (mkF m (pc + 2) Ls (.int v :: st))) : Goes p.tables e below Φ T (mkF m pc Ls st) := by
  obtain ⟨locs, X, eT, N, hn⟩ := S
  exact Goes.go (X.ldcInt B.1 B.2.2.2.2.1 (mvT B.2.1 w) (g := mkF m pc Ls st) rfl (B.d hd)) k
theorem Goes.ldcL {index : Nat} {v : Int64} (S : Sd p l e R s m args below meth c T h n0 cells slots) (B : Base p s m meth c Z y0 bytes0 maxL0 ret0) (w : (Cond.constantLong y0.cls index v).before a0 Z = true) (hd : decode bytes0 pc = .ok (.ldc2_w index, 3)) (k : Goes p.tables e below Φ T (mkF m (pc + 3) Ls (.long v :: st))) : Goes p.tables e below Φ T (mkF m pc Ls st) := by
  obtain ⟨locs, X, eT, N, hn⟩ := S
  exact Goes.go (X.ldc2Long B.1 B.2.2.2.2.1 (mvT B.2.1 w) (g := mkF m pc Ls st) rfl (B.d hd)) k
/-! calls -/
section Calls
variable {y : MethodName} {bytes : ByteArray} {maxL : Nat} {ret : Option FieldType} {rm : Room} {index W : Nat} {argsL : List Value} {Q : Option Value → Heap → Prop}
theorem Con.back {as' : Array Value} {len : Nat} (C : Con l Z y bytes maxL ret rm as' h n0 Q) (hn : n0 ≤ h.size) (hZ : Z.Warmed39 s.vm) (wc : (Cond.code y bytes maxL ret).before a0 Z = true) (wz : (Cond.initialized y.cls).before a0 Z = true) (hf : rm.frames + 1 ≤ R.frames) (hl : W + (maxL + 11) + rm.locals ≤ R.locals) :
    Back l R p e below s args y len W (fun A a => a = as' ∧ A.U.heap = h ∧ A.cells + rm.cells ≤ R.cells ∧ A.slots + rm.slots ≤ R.slots)
      (fun A _ v B => ∃ L, (Fr n0 L ∧ Q v B.U.heap) ∧ B.locs = A.locs ++ L ∧ B.cells = A.cells + rm.cells ∧ B.slots = A.slots + rm.slots) :=
  backOf (Q := fun v h L => Fr n0 L ∧ Q v h) (C hn []) hZ wc wz hf hl
theorem Goes.callS (S : Sd p l e R s m args below meth c T h n0 cells slots) (B : Base p s m meth c Z y0 bytes0 maxL0 ret0) (C : Con l Z y bytes maxL ret rm argsL.toArray h n0 Q) (wl : (Cond.methodLink y0.cls index y).before a0 Z = true) (ws : (Cond.static y).before a0 Z = true) (wi : (Cond.initialized y.cls).before a0 Z = true) (wc : (Cond.code y bytes maxL ret).before a0 Z = true)
    (hy : y.cls ≠ "java/lang/invoke/MethodHandle" ∧ y.cls ≠ "java/lang/invoke/VarHandle") (hf : rm.frames + 1 ≤ R.frames) (hlo : W + (maxL + 11) + rm.locals ≤ R.locals) (hc : cells + rm.cells ≤ R.cells) (hs : slots + rm.slots ≤ R.slots) (hsz : Ls.size = maxL0)
    (hlen : ∀ sig, parseMethodDescriptor y.desc = some sig → argsL.length = sig.parameters.length) (hst : st = argsL.reverse ++ rest) (hW : 2 * 0 + (rest.map fun v => v.category).sum ≤ W) (hd : decode bytes0 pc = .ok (.invokestatic index, 3))
    (k : ∀ v T' h', Sd p l e R s m args below meth c T' h' n0 (cells + rm.cells) (slots + rm.slots) → Q v h' → Goes p.tables e below Φ T' (mkF m (pc + 3) Ls (v.toList ++ rest))) : Goes p.tables e below Φ T (mkF m pc Ls st) := by
  have hle := S.le
  obtain ⟨locs, X, eT, N, hn⟩ := S
  subst hst
  obtain ⟨v, _, ⟨T', L', k', n'⟩, -, X', ⟨Lc, ⟨hN, hQ⟩, l1, y1, z1⟩, stp⟩ := Jvm.LawKit.callS X B.1 (y := y) B.2.2.2.2.1 (mvT B.2.1 wl) (mvT B.2.1 ws) (mvT B.2.1 wi) (mvT B.2.1 wc) hy (Con.back (W := W) C hle B.2.1 wc wi hf hlo) (g := mkF m pc Ls (argsL.reverse ++ rest)) rfl (by rw [B.2.2.2.1]; exact hsz) (argsL := argsL) (rest := rest) hlen rfl hW (B.d hd) (fun _ _ => ⟨rfl, eT, hc, hs⟩)
  dsimp only [Pt.U, Pt.locs, Pt.cells, Pt.slots] at X' l1 y1 z1 stp hQ
  subst l1 y1 z1
  exact Goes.go stp (k v T' T'.heap ⟨_, X', rfl, N.app hN, hn⟩ hQ)
theorem Goes.callI {b : Addr} (S : Sd p l e R s m args below meth c T h n0 cells slots) (B : Base p s m meth c Z y0 bytes0 maxL0 ret0) (C : Con l Z y bytes maxL none rm (.ref b :: argsL).toArray h n0 Q) (wl : (Cond.methodLink y0.cls index y).before a0 Z = true) (wim : (Cond.instanceMethod y).before a0 Z = true) (wi : (Cond.initialized y.cls).before a0 Z = true) (wc : (Cond.code y bytes maxL none).before a0 Z = true)
    (hy : y.cls ≠ "java/lang/invoke/MethodHandle" ∧ y.cls ≠ "java/lang/invoke/VarHandle") (hni : y.name = "<init>") (hf : rm.frames + 1 ≤ R.frames) (hlo : W + (maxL + 11) + rm.locals ≤ R.locals) (hc : cells + rm.cells ≤ R.cells) (hs : slots + rm.slots ≤ R.slots) (hsz : Ls.size = maxL0)
    (hlen : ∀ sig, parseMethodDescriptor y.desc = some sig → argsL.length = sig.parameters.length) (hst : st = argsL.reverse ++ .ref b :: rest) (hW : 2 * 0 + (rest.map fun v => v.category).sum ≤ W) (hd : decode bytes0 pc = .ok (.invokespecial index, 3))
    (k : ∀ v T' h', Sd p l e R s m args below meth c T' h' n0 (cells + rm.cells) (slots + rm.slots) → Q v h' → Goes p.tables e below Φ T' (mkF m (pc + 3) Ls (v.toList ++ rest))) : Goes p.tables e below Φ T (mkF m pc Ls st) := by
  have hle := S.le
  obtain ⟨locs, X, eT, N, hn⟩ := S
  subst hst
  obtain ⟨v, _, ⟨T', L', k', n'⟩, -, X', ⟨Lc, ⟨hN, hQ⟩, l1, y1, z1⟩, stp⟩ := X.specialBack B.1 (y := y) hni B.2.2.2.2.1 (mvT B.2.1 wl) (mvT B.2.1 wim) (mvT B.2.1 wc) hy (Con.back (W := W) C hle B.2.1 wc wi hf hlo) (g := mkF m pc Ls (argsL.reverse ++ .ref b :: rest)) rfl (by rw [B.2.2.2.1]; exact hsz) (Steps.refl _) (a := b) (argsL := argsL) (rest := rest) hlen rfl hW (B.d hd) (fun _ _ => ⟨rfl, eT, hc, hs⟩)
  dsimp only [Pt.U, Pt.locs, Pt.cells, Pt.slots] at X' l1 y1 z1 stp hQ
  subst l1 y1 z1
  exact Goes.go (fun t q => stp.trans q) (k v T' T'.heap ⟨_, X', rfl, N.app hN, hn⟩ hQ)
theorem Goes.callV {b : Addr} {K : String} (S : Sd p l e R s m args below meth c T h n0 cells slots) (B : Base p s m meth c Z y0 bytes0 maxL0 ret0) (C : Con l Z y bytes maxL ret rm (.ref b :: argsL).toArray h n0 Q) (E : Exa Z h b K) (wl : (Cond.methodLink y0.cls index y).before a0 Z = true) (wd : (Cond.declares y).before a0 Z = true) (wsel : (Cond.selects K y y).before a0 Z = true) (wim : (Cond.instanceMethod y).before a0 Z = true) (wi : (Cond.initialized y.cls).before a0 Z = true) (wc : (Cond.code y bytes maxL ret).before a0 Z = true)
    (hy : y.cls ≠ "java/lang/invoke/MethodHandle" ∧ y.cls ≠ "java/lang/invoke/VarHandle") (hf : rm.frames + 1 ≤ R.frames) (hlo : W + (maxL + 11) + rm.locals ≤ R.locals) (hc : cells + rm.cells ≤ R.cells) (hs : slots + rm.slots ≤ R.slots) (hsz : Ls.size = maxL0)
    (hlen : ∀ sig, parseMethodDescriptor y.desc = some sig → argsL.length = sig.parameters.length) (hst : st = argsL.reverse ++ .ref b :: rest) (hW : 2 * 0 + (rest.map fun v => v.category).sum ≤ W) (hd : decode bytes0 pc = .ok (.invokevirtual index, 3))
    (k : ∀ v T' h', Sd p l e R s m args below meth c T' h' n0 (cells + rm.cells) (slots + rm.slots) → Q v h' → Goes p.tables e below Φ T' (mkF m (pc + 3) Ls (v.toList ++ rest))) : Goes p.tables e below Φ T (mkF m pc Ls st) := by
  have hle := S.le
  obtain ⟨locs, X, eT, N, hn⟩ := S
  subst hst
  obtain ⟨cq, kq, qa, qb, qc⟩ := isOf B.2.1 eT E
  obtain ⟨v, _, ⟨T', L', k', n'⟩, -, X', ⟨Lc, ⟨hN, hQ⟩, l1, y1, z1⟩, stp⟩ := X.virtualBack B.1 (y := y) (z := y) B.2.2.2.2.1 (mvT B.2.1 wl) (mvT B.2.1 wd) (notFace_of_selects (args := #[]) (mvT B.2.1 wsel)) (mvT B.2.1 wsel) (mvT B.2.1 wim) hy (Con.back (W := W) C hle B.2.1 wc wi hf hlo) qa qc (g := mkF m pc Ls (argsL.reverse ++ .ref b :: rest)) rfl (by rw [B.2.2.2.1]; exact hsz) (Steps.refl _) (argsL := argsL) (rest := rest) hlen rfl hW (B.d hd) (fun _ _ => ⟨rfl, eT, hc, hs⟩)
  dsimp only [Pt.U, Pt.locs, Pt.cells, Pt.slots] at X' l1 y1 z1 stp hQ
  subst l1 y1 z1
  exact Goes.go (fun t q => stp.trans q) (k v T' T'.heap ⟨_, X', rfl, N.app hN, hn⟩ hQ)
theorem Goes.callP {b : Addr} {K : String} (S : Sd p l e R s m args below meth c T h n0 cells slots) (B : Base p s m meth c Z y0 bytes0 maxL0 ret0) (C : Con l Z y bytes maxL ret rm (.ref b :: argsL).toArray h n0 Q) (E : Exa Z h b K) (wl : (Cond.methodLink y0.cls index y).before a0 Z = true) (wp : (Cond.privateMethod y).before a0 Z = true) {kk : Nat} (wk : (Cond.instantiable y.cls kk).before a0 Z = true) (wim : (Cond.instanceMethod y).before a0 Z = true) (wi : (Cond.initialized y.cls).before a0 Z = true) (wc : (Cond.code y bytes maxL ret).before a0 Z = true)
    (hy : y.cls ≠ "java/lang/invoke/MethodHandle" ∧ y.cls ≠ "java/lang/invoke/VarHandle") (hf : rm.frames + 1 ≤ R.frames) (hlo : W + (maxL + 11) + rm.locals ≤ R.locals) (hc : cells + rm.cells ≤ R.cells) (hs : slots + rm.slots ≤ R.slots) (hsz : Ls.size = maxL0)
    (hlen : ∀ sig, parseMethodDescriptor y.desc = some sig → argsL.length = sig.parameters.length) (hst : st = argsL.reverse ++ .ref b :: rest) (hW : 2 * 0 + (rest.map fun v => v.category).sum ≤ W) (hd : decode bytes0 pc = .ok (.invokevirtual index, 3))
    (k : ∀ v T' h', Sd p l e R s m args below meth c T' h' n0 (cells + rm.cells) (slots + rm.slots) → Q v h' → Goes p.tables e below Φ T' (mkF m (pc + 3) Ls (v.toList ++ rest))) : Goes p.tables e below Φ T (mkF m pc Ls st) := by
  have hle := S.le
  obtain ⟨locs, X, eT, N, hn⟩ := S
  subst hst
  obtain ⟨cq, q1, q2⟩ := E.cell
  have hpr : s.PrivateAt y := Cond.privateMethod_at (mvP B.2.1 wp (args := #[]))
  have wsel : (Cond.selects y.cls y y).before args s = true := by
    obtain ⟨ci, ki, i1, i2, i3, i4, -⟩ := Cond.instantiable_spec (mvT B.2.1 wk (args := args))
    exact selects_self_of_private i1 i2 (Bool.or_eq_false_iff.mp i4).1 hpr (mvT B.2.1 wim) hy
  obtain ⟨v, _, ⟨T', L', k', n'⟩, -, X', ⟨Lc, ⟨hN, hQ⟩, l1, y1, z1⟩, stp⟩ := X.privateBack B.1 (y := y) B.2.2.2.2.1 (mvT B.2.1 wl) (mvT B.2.1 wim) wsel hpr (mvT B.2.1 wc) hy (Con.back (W := W) C hle B.2.1 wc wi hf hlo) (g := mkF m pc Ls (argsL.reverse ++ .ref b :: rest)) rfl (by rw [B.2.2.2.1]; exact hsz) (Steps.refl _) (a := b) (by rw [eT]; exact q1) q2 (argsL := argsL) (rest := rest) hlen rfl hW (B.d hd) (fun _ _ => ⟨rfl, eT, hc, hs⟩)
  dsimp only [Pt.U, Pt.locs, Pt.cells, Pt.slots] at X' l1 y1 z1 stp hQ
  subst l1 y1 z1
  exact Goes.go (fun t q => stp.trans q) (k v T' T'.heap ⟨_, X', rfl, N.app hN, hn⟩ hQ)
end Calls
/-! arrays: what lies at each place, as a function -/
def Ary (Z : State) (h : Heap) (a : Addr) (ty : FieldType) (n : Nat) (f : Nat → Value) : Prop := ∃ c : Cell, Arr Z h a c ty ∧ c.slots.size = n ∧ n < 2 ^ 31 ∧ ∀ i, i < n → c.slots[i]? = some (f i)
def aup {α : Type} (f : Nat → α) (i : Nat) (v : α) : Nat → α := fun k => if k = i then v else f k
theorem aup_int (g : Nat → Int32) (k : Nat) (x : Int32) : aup (fun i => Value.int (g i)) k (.int x) = fun i => .int (aup g k x i) := by
  funext i
  simp only [aup]
  split <;> rfl
theorem aup_long (g : Nat → Int64) (k : Nat) (x : Int64) : aup (fun i => Value.long (g i)) k (.long x) = fun i => .long (aup g k x i) := by
  funext i
  simp only [aup]
  split <;> rfl
section Arrays
variable {a b : Addr} {ty : FieldType} {n : Nat} {f : Nat → Value} {h' : Heap} {j : Int32} {v : Value} {sl : Nat} {ws : List Addr}
theorem Ary.lt (A : Ary Z h a ty n f) : a < h.size := by obtain ⟨c, A, -⟩ := A; exact A.lt
theorem Ary.ext (A : Ary Z h a ty n f) (E : Ext h h') : Ary Z h' a ty n f := by obtain ⟨c, A, r⟩ := A; exact ⟨c, A.ext E, r⟩
theorem Ary.other (A : Ary Z h b ty n f) (W : Wr h h' a sl v) (q : b ≠ a) : Ary Z h' b ty n f := by obtain ⟨c, A, r⟩ := A; exact ⟨c, A.other W q, r⟩
theorem Ary.keep (A : Ary Z h a ty n f) (K : Keep h h' ws) (q : a ∉ ws) : Ary Z h' a ty n f := by obtain ⟨c, A, r⟩ := A; exact ⟨c, ⟨K.2.1 a c A.1 q, A.2⟩, r⟩
theorem Ary.cast {g : Nat → Value} (A : Ary Z h a ty n f) (q : ∀ i, i < n → f i = g i) : Ary Z h a ty n g := by obtain ⟨c, A, r1, r2, r3⟩ := A; exact ⟨c, A, r1, r2, fun i hi => by rw [r3 i hi, q i hi]⟩
theorem Ary.new {z : Int32} {k : ClassId} (A : Arr Z h a (newA k ty z) ty) (q : ¬ z < 0) : Ary Z h a ty z.toNatClampNeg (fun _ => defaultValue ty) :=
  ⟨_, A, sz_new _ _ _, (back32 q).2, fun i hi => by simp [newA, hi]⟩
theorem Ary.set {i : Nat} (A : Ary Z h a ty n f) (W : Wr h h' a i v) (hi : i < n) : Ary Z h' a ty n (aup f i v) := by
  obtain ⟨c, A, r1, r2, r3⟩ := A
  refine ⟨_, A.same W, by rw [sz_set]; exact r1, r2, fun k hk => ?_⟩
  by_cases e : k = i
  · subst e
    simp [aup, Cell.setSlot, r1, hi]
  · have e' : i ≠ k := fun q => e q.symm
    simp only [aup, if_neg e, Cell.setSlot]
    rw [Array.getElem?_setIfInBounds_ne e']
    exact r3 k hk
theorem Goes.newP {aty : ArrayType} {z : Int32} {cap : Nat} (S : Sd p l e R s m args below meth c T h n0 cells slots) (B : Base p s m meth c Z y0 bytes0 maxL0 ret0) (w : (Cond.arrayClass (newarray.typeOf aty)).before a0 Z = true) (hd : decode bytes0 pc = .ok (.newarray aty, 2)) (hz : ¬ z < 0) (hcap : z.toNatClampNeg ≤ cap) (hb : cap * 8 ≤ 536870912) (hc : cells + 1 ≤ R.cells) (hl : slots + cap ≤ R.slots)
    (k : ∀ T' h' b, Sd p l e R s m args below meth c T' h' n0 (cells + 1) (slots + cap) → Ext h h' → b = h.size → n0 ≤ b → Ary Z h' b (newarray.typeOf aty) z.toNatClampNeg (fun _ => defaultValue (newarray.typeOf aty)) → Goes p.tables e below Φ T' (mkF m (pc + 2) Ls (.ref b :: rest))) :
    Goes p.tables e below Φ T (mkF m pc Ls (.int z :: rest)) := by
  have hle := S.le
  obtain ⟨locs, X, eT, N, hn⟩ := S
  obtain ⟨T', h', k', X', e', E, A, stp⟩ := RoadKit.newP X B.1 B.2.1 w eT (g := mkF m pc Ls (.int z :: rest)) rfl (B.d hd) rfl hz hcap hb hc hl
  exact Goes.go stp (k T' h' h.size ⟨locs, X', e', N, hn⟩ E rfl hle (Ary.new A hz))
theorem Goes.iaload (S : Sd p l e R s m args below meth c T h n0 cells slots) (B : Base p s m meth c Z y0 bytes0 maxL0 ret0) (A : Ary Z h a .int n f) (q0 : ¬ j < 0) (q1 : j.toNatClampNeg < n) (hd : decode bytes0 pc = .ok (.iaload, 1)) (hv : f j.toNatClampNeg = v) (k : Goes p.tables e below Φ T (mkF m (pc + 1) Ls (v :: rest))) : Goes p.tables e below Φ T (mkF m pc Ls (.int j :: .ref a :: rest)) := by
  obtain ⟨locs, X, eT, N, hn⟩ := S
  obtain ⟨cl, A, r1, r2, r3⟩ := A
  exact Goes.go (X.iaload B.1 (j := j) (v := v) (by rw [eT]; exact A.1) (State.isArrayOf_alike B.2.1.alike A.2.1) A.2.2 (by rw [r1]; exact fun z => z.elim q0 (Nat.not_le.mpr q1)) (by rw [r3 _ q1, hv]) (g := mkF m pc Ls (.int j :: .ref a :: rest)) rfl rfl (B.d hd)) k
theorem Goes.laload (S : Sd p l e R s m args below meth c T h n0 cells slots) (B : Base p s m meth c Z y0 bytes0 maxL0 ret0) (A : Ary Z h a .long n f) (q0 : ¬ j < 0) (q1 : j.toNatClampNeg < n) (hd : decode bytes0 pc = .ok (.laload, 1)) (hv : f j.toNatClampNeg = v) (k : Goes p.tables e below Φ T (mkF m (pc + 1) Ls (v :: rest))) : Goes p.tables e below Φ T (mkF m pc Ls (.int j :: .ref a :: rest)) := by
  obtain ⟨locs, X, eT, N, hn⟩ := S
  obtain ⟨cl, A, r1, r2, r3⟩ := A
  exact Goes.go (X.laload B.1 (j := j) (v := v) (by rw [eT]; exact A.1) (State.isArrayOf_alike B.2.1.alike A.2.1) A.2.2 (by rw [r1]; exact fun z => z.elim q0 (Nat.not_le.mpr q1)) (by rw [r3 _ q1, hv]) (g := mkF m pc Ls (.int j :: .ref a :: rest)) rfl rfl (B.d hd)) k
theorem Goes.baload (S : Sd p l e R s m args below meth c T h n0 cells slots) (B : Base p s m meth c Z y0 bytes0 maxL0 ret0) (A : Ary Z h a .byte n f) (q0 : ¬ j < 0) (q1 : j.toNatClampNeg < n) (hd : decode bytes0 pc = .ok (.baload, 1)) (hv : f j.toNatClampNeg = v) (k : Goes p.tables e below Φ T (mkF m (pc + 1) Ls (v :: rest))) : Goes p.tables e below Φ T (mkF m pc Ls (.int j :: .ref a :: rest)) := by
  obtain ⟨locs, X, eT, N, hn⟩ := S
  obtain ⟨cl, A, r1, r2, r3⟩ := A
  exact Goes.go (X.baloadBytes B.1 (j := j) (v := v) (by rw [eT]; exact A.1) (State.isArrayOf_alike B.2.1.alike A.2.1) A.2.2 (by rw [r1]; exact fun z => z.elim q0 (Nat.not_le.mpr q1)) (by rw [r3 _ q1, hv]) (g := mkF m pc Ls (.int j :: .ref a :: rest)) rfl rfl (B.d hd)) k
theorem Goes.zaload (S : Sd p l e R s m args below meth c T h n0 cells slots) (B : Base p s m meth c Z y0 bytes0 maxL0 ret0) (A : Ary Z h a .boolean n f) (q0 : ¬ j < 0) (q1 : j.toNatClampNeg < n) (hd : decode bytes0 pc = .ok (.baload, 1)) (hv : f j.toNatClampNeg = v) (k : Goes p.tables e below Φ T (mkF m (pc + 1) Ls (v :: rest))) : Goes p.tables e below Φ T (mkF m pc Ls (.int j :: .ref a :: rest)) := by
  obtain ⟨locs, X, eT, N, hn⟩ := S
  obtain ⟨cl, A, r1, r2, r3⟩ := A
  exact Goes.go (X.baloadBooleans B.1 (j := j) (v := v) (by rw [eT]; exact A.1) (State.isArrayOf_alike B.2.1.alike A.2.1) A.2.2 (by rw [r1]; exact fun z => z.elim q0 (Nat.not_le.mpr q1)) (by rw [r3 _ q1, hv]) (g := mkF m pc Ls (.int j :: .ref a :: rest)) rfl rfl (B.d hd)) k
theorem Goes.alen (S : Sd p l e R s m args below meth c T h n0 cells slots) (B : Base p s m meth c Z y0 bytes0 maxL0 ret0) (A : Ary Z h a ty n f) {z : Int32} (hz : n.toInt32 = z) (hd : decode bytes0 pc = .ok (.arraylength, 1)) (k : Goes p.tables e below Φ T (mkF m (pc + 1) Ls (.int z :: rest))) : Goes p.tables e below Φ T (mkF m pc Ls (.ref a :: rest)) := by
  obtain ⟨locs, X, eT, N, hn⟩ := S
  obtain ⟨cl, A, r1, r2, r3⟩ := A
  subst r1 hz
  exact Goes.go (X.arraylength B.1 (by rw [eT]; exact A.1) (State.isArrayOf_alike B.2.1.alike A.2.1) (g := mkF m pc Ls (.ref a :: rest)) rfl rfl (B.d hd)) k
theorem Goes.iastore {x : Int32} (S : Sd p l e R s m args below meth c T h n0 cells slots) (B : Base p s m meth c Z y0 bytes0 maxL0 ret0) (A : Ary Z h a .int n f) (q0 : ¬ j < 0) (q1 : j.toNatClampNeg < n) (ga : n0 ≤ a) (hd : decode bytes0 pc = .ok (.iastore, 1))
    (k : ∀ T' h', Sd p l e R s m args below meth c T' h' n0 cells slots → Wr h h' a j.toNatClampNeg (.int x) → Ary Z h' a .int n (aup f j.toNatClampNeg (.int x)) → Goes p.tables e below Φ T' (mkF m (pc + 1) Ls rest)) : Goes p.tables e below Φ T (mkF m pc Ls (.int x :: .int j :: .ref a :: rest)) := by
  obtain ⟨locs, X, eT, N, hn⟩ := S
  have A' := A
  obtain ⟨cl, A, r1, r2, r3⟩ := A
  obtain ⟨T', h', X', e', W, stp⟩ := RoadKit.stI X B.1 B.2.1 eT A (j := j) (by rw [r1]; exact fun z => z.elim q0 (Nat.not_le.mpr q1)) (g := mkF m pc Ls (.int x :: .int j :: .ref a :: rest)) rfl rfl (B.d hd)
  exact Goes.go stp (k T' h' ⟨_, X', e', Fr.snoc X' N ga, hn⟩ W (A'.set W q1))
theorem Goes.lastore {x : Int64} (S : Sd p l e R s m args below meth c T h n0 cells slots) (B : Base p s m meth c Z y0 bytes0 maxL0 ret0) (A : Ary Z h a .long n f) (q0 : ¬ j < 0) (q1 : j.toNatClampNeg < n) (ga : n0 ≤ a) (hd : decode bytes0 pc = .ok (.lastore, 1))
    (k : ∀ T' h', Sd p l e R s m args below meth c T' h' n0 cells slots → Wr h h' a j.toNatClampNeg (.long x) → Ary Z h' a .long n (aup f j.toNatClampNeg (.long x)) → Goes p.tables e below Φ T' (mkF m (pc + 1) Ls rest)) : Goes p.tables e below Φ T (mkF m pc Ls (.long x :: .int j :: .ref a :: rest)) := by
  obtain ⟨locs, X, eT, N, hn⟩ := S
  have A' := A
  obtain ⟨cl, A, r1, r2, r3⟩ := A
  obtain ⟨T', h', X', e', W, stp⟩ := RoadKit.stJ X B.1 B.2.1 eT A (j := j) (by rw [r1]; exact fun z => z.elim q0 (Nat.not_le.mpr q1)) (g := mkF m pc Ls (.long x :: .int j :: .ref a :: rest)) rfl rfl (B.d hd)
  exact Goes.go stp (k T' h' ⟨_, X', e', Fr.snoc X' N ga, hn⟩ W (A'.set W q1))
theorem Goes.bastore {x : Int32} (S : Sd p l e R s m args below meth c T h n0 cells slots) (B : Base p s m meth c Z y0 bytes0 maxL0 ret0) (A : Ary Z h a .byte n f) (q0 : ¬ j < 0) (q1 : j.toNatClampNeg < n) (ga : n0 ≤ a) (hd : decode bytes0 pc = .ok (.bastore, 1))
    (k : ∀ T' h', Sd p l e R s m args below meth c T' h' n0 cells slots → Wr h h' a j.toNatClampNeg (.int (nar .byte x)) → Ary Z h' a .byte n (aup f j.toNatClampNeg (.int (nar .byte x))) → Goes p.tables e below Φ T' (mkF m (pc + 1) Ls rest)) : Goes p.tables e below Φ T (mkF m pc Ls (.int x :: .int j :: .ref a :: rest)) := by
  obtain ⟨locs, X, eT, N, hn⟩ := S
  have A' := A
  obtain ⟨cl, A, r1, r2, r3⟩ := A
  obtain ⟨T', h', X', e', W, stp⟩ := RoadKit.stB X B.1 B.2.1 eT A (j := j) (by rw [r1]; exact fun z => z.elim q0 (Nat.not_le.mpr q1)) (g := mkF m pc Ls (.int x :: .int j :: .ref a :: rest)) rfl rfl (B.d hd)
  exact Goes.go stp (k T' h' ⟨_, X', e', Fr.snoc X' N ga, hn⟩ W (A'.set W q1))
theorem Goes.zastore {x : Int32} (S : Sd p l e R s m args below meth c T h n0 cells slots) (B : Base p s m meth c Z y0 bytes0 maxL0 ret0) (A : Ary Z h a .boolean n f) (q0 : ¬ j < 0) (q1 : j.toNatClampNeg < n) (ga : n0 ≤ a) (hd : decode bytes0 pc = .ok (.bastore, 1))
    (k : ∀ T' h', Sd p l e R s m args below meth c T' h' n0 cells slots → Wr h h' a j.toNatClampNeg (.int (nar .boolean x)) → Ary Z h' a .boolean n (aup f j.toNatClampNeg (.int (nar .boolean x))) → Goes p.tables e below Φ T' (mkF m (pc + 1) Ls rest)) : Goes p.tables e below Φ T (mkF m pc Ls (.int x :: .int j :: .ref a :: rest)) := by
  obtain ⟨locs, X, eT, N, hn⟩ := S
  have A' := A
  obtain ⟨cl, A, r1, r2, r3⟩ := A
  obtain ⟨T', h', X', e', W, stp⟩ := RoadKit.stZ X B.1 B.2.1 eT A (j := j) (by rw [r1]; exact fun z => z.elim q0 (Nat.not_le.mpr q1)) (g := mkF m pc Ls (.int x :: .int j :: .ref a :: rest)) rfl rfl (B.d hd)
  exact Goes.go stp (k T' h' ⟨_, X', e', Fr.snoc X' N ga, hn⟩ W (A'.set W q1))
end Arrays
end Lay
end Jvm.OwnKit
namespace Jvm.Pilot.@@N@@
open Jvm Jvm.ClassFile Sem Op Lib Jvm.Free Jvm.Stand Jvm.LawKit Jvm.RoadKit Jvm.OwnKit Bundle Jvm.Pilot.@@N@@.Jvm.D
theorem w0 {Z : State} {a0 : Array Value} (hw : ∀ d ∈ tables_1, d.before a0 Z = true) : ((Jvm.Cond.constant "com/example/holdfast/holdfast/IndexStackTakePinLaw" (7 : Nat) (2147483647 : Int32)) : Jvm.Cond).before a0 Z = true := hw _ (List.mem_of_getElem? (i := 0) rfl)
theorem w1 {Z : State} {a0 : Array Value} (hw : ∀ d ∈ tables_1, d.before a0 Z = true) : ((Jvm.Cond.arrayClass Jvm.ClassFile.FieldType.int) : Jvm.Cond).before a0 Z = true := hw _ (List.mem_of_getElem? (i := 1) rfl)
theorem w2 {Z : State} {a0 : Array Value} (hw : ∀ d ∈ tables_1, d.before a0 Z = true) : ((Jvm.Cond.classLink "com/example/holdfast/holdfast/IndexStackTakePinLaw" (8 : Nat) "com/example/holdfast/holdfast/IndexStack") : Jvm.Cond).before a0 Z = true := hw _ (List.mem_of_getElem? (i := 2) rfl)
theorem w3 {Z : State} {a0 : Array Value} (hw : ∀ d ∈ tables_1, d.before a0 Z = true) : ((Jvm.Cond.instantiable "com/example/holdfast/holdfast/IndexStack" (3 : Nat)) : Jvm.Cond).before a0 Z = true := hw _ (List.mem_of_getElem? (i := 3) rfl)
theorem w4 {Z : State} {a0 : Array Value} (hw : ∀ d ∈ tables_1, d.before a0 Z = true) : ((Jvm.Cond.initialized "com/example/holdfast/holdfast/IndexStack") : Jvm.Cond).before a0 Z = true := hw _ (List.mem_of_getElem? (i := 4) rfl)
theorem w5 {Z : State} {a0 : Array Value} (hw : ∀ d ∈ tables_1, d.before a0 Z = true) : ((Jvm.Cond.methodLink "com/example/holdfast/holdfast/IndexStackTakePinLaw" (10 : Nat) ({ cls := "com/example/holdfast/holdfast/IndexStack", name := "<init>", desc := "(I)V" } : Jvm.MethodName)) : Jvm.Cond).before a0 Z = true := hw _ (List.mem_of_getElem? (i := 5) rfl)
theorem w6 {Z : State} {a0 : Array Value} (hw : ∀ d ∈ tables_1, d.before a0 Z = true) : ((Jvm.Cond.instanceMethod ({ cls := "com/example/holdfast/holdfast/IndexStack", name := "<init>", desc := "(I)V" } : Jvm.MethodName)) : Jvm.Cond).before a0 Z = true := hw _ (List.mem_of_getElem? (i := 6) rfl)
theorem w7 {Z : State} {a0 : Array Value} (hw : ∀ d ∈ tables_1, d.before a0 Z = true) : ((Jvm.Cond.code ({ cls := "com/example/holdfast/holdfast/IndexStack", name := "<init>", desc := "(I)V" } : Jvm.MethodName) prog_7_method_1_code (2 : Nat) (Option.none : Option Jvm.ClassFile.FieldType)) : Jvm.Cond).before a0 Z = true := hw _ (List.mem_of_getElem? (i := 7) rfl)
theorem w8 {Z : State} {a0 : Array Value} (hw : ∀ d ∈ tables_1, d.before a0 Z = true) : ((Jvm.Cond.methodLink "com/example/holdfast/holdfast/IndexStack" (1 : Nat) ({ cls := "java/lang/Object", name := "<init>", desc := "()V" } : Jvm.MethodName)) : Jvm.Cond).before a0 Z = true := hw _ (List.mem_of_getElem? (i := 8) rfl)
theorem w9 {Z : State} {a0 : Array Value} (hw : ∀ d ∈ tables_1, d.before a0 Z = true) : ((Jvm.Cond.instanceMethod ({ cls := "java/lang/Object", name := "<init>", desc := "()V" } : Jvm.MethodName)) : Jvm.Cond).before a0 Z = true := hw _ (List.mem_of_getElem? (i := 9) rfl)
theorem w10 {Z : State} {a0 : Array Value} (hw : ∀ d ∈ tables_1, d.before a0 Z = true) : ((Jvm.Cond.code ({ cls := "java/lang/Object", name := "<init>", desc := "()V" } : Jvm.MethodName) object_method_1_code (1 : Nat) (Option.none : Option Jvm.ClassFile.FieldType)) : Jvm.Cond).before a0 Z = true := hw _ (List.mem_of_getElem? (i := 10) rfl)
theorem w11 {Z : State} {a0 : Array Value} (hw : ∀ d ∈ tables_1, d.before a0 Z = true) : ((Jvm.Cond.fieldLink "com/example/holdfast/holdfast/IndexStack" (7 : Nat) "com/example/holdfast/holdfast/IndexStack" "items" "[I") : Jvm.Cond).before a0 Z = true := hw _ (List.mem_of_getElem? (i := 11) rfl)
theorem w12 {Z : State} {a0 : Array Value} (hw : ∀ d ∈ tables_1, d.before a0 Z = true) : ((Jvm.Cond.laysFinal "com/example/holdfast/holdfast/IndexStack" "com/example/holdfast/holdfast/IndexStack" "items" "[I") : Jvm.Cond).before a0 Z = true := hw _ (List.mem_of_getElem? (i := 12) rfl)
theorem w13 {Z : State} {a0 : Array Value} (hw : ∀ d ∈ tables_1, d.before a0 Z = true) : ((Jvm.Cond.arrayClass Jvm.ClassFile.FieldType.boolean) : Jvm.Cond).before a0 Z = true := hw _ (List.mem_of_getElem? (i := 13) rfl)
theorem w14 {Z : State} {a0 : Array Value} (hw : ∀ d ∈ tables_1, d.before a0 Z = true) : ((Jvm.Cond.fieldLink "com/example/holdfast/holdfast/IndexStack" (13 : Nat) "com/example/holdfast/holdfast/IndexStack" "held" "[Z") : Jvm.Cond).before a0 Z = true := hw _ (List.mem_of_getElem? (i := 14) rfl)
theorem w15 {Z : State} {a0 : Array Value} (hw : ∀ d ∈ tables_1, d.before a0 Z = true) : ((Jvm.Cond.laysFinal "com/example/holdfast/holdfast/IndexStack" "com/example/holdfast/holdfast/IndexStack" "held" "[Z") : Jvm.Cond).before a0 Z = true := hw _ (List.mem_of_getElem? (i := 15) rfl)
theorem w16 {Z : State} {a0 : Array Value} (hw : ∀ d ∈ tables_1, d.before a0 Z = true) : ((Jvm.Cond.methodLink "com/example/holdfast/holdfast/IndexStackTakePinLaw" (13 : Nat) ({ cls := "com/example/holdfast/holdfast/IndexStack", name := "add", desc := "(I)V" } : Jvm.MethodName)) : Jvm.Cond).before a0 Z = true := hw _ (List.mem_of_getElem? (i := 16) rfl)
theorem w17 {Z : State} {a0 : Array Value} (hw : ∀ d ∈ tables_1, d.before a0 Z = true) : ((Jvm.Cond.declares ({ cls := "com/example/holdfast/holdfast/IndexStack", name := "add", desc := "(I)V" } : Jvm.MethodName)) : Jvm.Cond).before a0 Z = true := hw _ (List.mem_of_getElem? (i := 17) rfl)
theorem w18 {Z : State} {a0 : Array Value} (hw : ∀ d ∈ tables_1, d.before a0 Z = true) : ((Jvm.Cond.instanceMethod ({ cls := "com/example/holdfast/holdfast/IndexStack", name := "add", desc := "(I)V" } : Jvm.MethodName)) : Jvm.Cond).before a0 Z = true := hw _ (List.mem_of_getElem? (i := 18) rfl)
theorem w19 {Z : State} {a0 : Array Value} (hw : ∀ d ∈ tables_1, d.before a0 Z = true) : ((Jvm.Cond.selects "com/example/holdfast/holdfast/IndexStack" ({ cls := "com/example/holdfast/holdfast/IndexStack", name := "add", desc := "(I)V" } : Jvm.MethodName) ({ cls := "com/example/holdfast/holdfast/IndexStack", name := "add", desc := "(I)V" } : Jvm.MethodName)) : Jvm.Cond).before a0 Z = true := hw _ (List.mem_of_getElem? (i := 19) rfl)
theorem w20 {Z : State} {a0 : Array Value} (hw : ∀ d ∈ tables_1, d.before a0 Z = true) : ((Jvm.Cond.code ({ cls := "com/example/holdfast/holdfast/IndexStack", name := "add", desc := "(I)V" } : Jvm.MethodName) prog_7_method_2_code (2 : Nat) (Option.none : Option Jvm.ClassFile.FieldType)) : Jvm.Cond).before a0 Z = true := hw _ (List.mem_of_getElem? (i := 20) rfl)
theorem w21 {Z : State} {a0 : Array Value} (hw : ∀ d ∈ tables_1, d.before a0 Z = true) : ((Jvm.Cond.fieldLink "com/example/holdfast/holdfast/IndexStack" (17 : Nat) "com/example/holdfast/holdfast/IndexStack" "count" "I") : Jvm.Cond).before a0 Z = true := hw _ (List.mem_of_getElem? (i := 21) rfl)
theorem w22 {Z : State} {a0 : Array Value} (hw : ∀ d ∈ tables_1, d.before a0 Z = true) : ((Jvm.Cond.lays "com/example/holdfast/holdfast/IndexStack" "com/example/holdfast/holdfast/IndexStack" "count" "I") : Jvm.Cond).before a0 Z = true := hw _ (List.mem_of_getElem? (i := 22) rfl)
theorem w23 {Z : State} {a0 : Array Value} (hw : ∀ d ∈ tables_1, d.before a0 Z = true) : ((Jvm.Cond.methodLink "com/example/holdfast/holdfast/IndexStackTakePinLaw" (16 : Nat) ({ cls := "com/example/holdfast/holdfast/IndexStack", name := "take", desc := "()I" } : Jvm.MethodName)) : Jvm.Cond).before a0 Z = true := hw _ (List.mem_of_getElem? (i := 23) rfl)
theorem w24 {Z : State} {a0 : Array Value} (hw : ∀ d ∈ tables_1, d.before a0 Z = true) : ((Jvm.Cond.declares ({ cls := "com/example/holdfast/holdfast/IndexStack", name := "take", desc := "()I" } : Jvm.MethodName)) : Jvm.Cond).before a0 Z = true := hw _ (List.mem_of_getElem? (i := 24) rfl)
theorem w25 {Z : State} {a0 : Array Value} (hw : ∀ d ∈ tables_1, d.before a0 Z = true) : ((Jvm.Cond.instanceMethod ({ cls := "com/example/holdfast/holdfast/IndexStack", name := "take", desc := "()I" } : Jvm.MethodName)) : Jvm.Cond).before a0 Z = true := hw _ (List.mem_of_getElem? (i := 25) rfl)
theorem w26 {Z : State} {a0 : Array Value} (hw : ∀ d ∈ tables_1, d.before a0 Z = true) : ((Jvm.Cond.selects "com/example/holdfast/holdfast/IndexStack" ({ cls := "com/example/holdfast/holdfast/IndexStack", name := "take", desc := "()I" } : Jvm.MethodName) ({ cls := "com/example/holdfast/holdfast/IndexStack", name := "take", desc := "()I" } : Jvm.MethodName)) : Jvm.Cond).before a0 Z = true := hw _ (List.mem_of_getElem? (i := 26) rfl)
theorem w27 {Z : State} {a0 : Array Value} (hw : ∀ d ∈ tables_1, d.before a0 Z = true) : ((Jvm.Cond.code ({ cls := "com/example/holdfast/holdfast/IndexStack", name := "take", desc := "()I" } : Jvm.MethodName) prog_7_method_4_code (2 : Nat) (Option.some Jvm.ClassFile.FieldType.int)) : Jvm.Cond).before a0 Z = true := hw _ (List.mem_of_getElem? (i := 27) rfl)
theorem w28 {Z : State} {a0 : Array Value} (hw : ∀ d ∈ tables_1, d.before a0 Z = true) : ((Jvm.Cond.methodLink "com/example/holdfast/holdfast/IndexStackTakePinLaw" (20 : Nat) ({ cls := "com/example/holdfast/holdfast/IndexStack", name := "size", desc := "()I" } : Jvm.MethodName)) : Jvm.Cond).before a0 Z = true := hw _ (List.mem_of_getElem? (i := 28) rfl)
theorem w29 {Z : State} {a0 : Array Value} (hw : ∀ d ∈ tables_1, d.before a0 Z = true) : ((Jvm.Cond.declares ({ cls := "com/example/holdfast/holdfast/IndexStack", name := "size", desc := "()I" } : Jvm.MethodName)) : Jvm.Cond).before a0 Z = true := hw _ (List.mem_of_getElem? (i := 29) rfl)
theorem w30 {Z : State} {a0 : Array Value} (hw : ∀ d ∈ tables_1, d.before a0 Z = true) : ((Jvm.Cond.instanceMethod ({ cls := "com/example/holdfast/holdfast/IndexStack", name := "size", desc := "()I" } : Jvm.MethodName)) : Jvm.Cond).before a0 Z = true := hw _ (List.mem_of_getElem? (i := 30) rfl)
theorem w31 {Z : State} {a0 : Array Value} (hw : ∀ d ∈ tables_1, d.before a0 Z = true) : ((Jvm.Cond.selects "com/example/holdfast/holdfast/IndexStack" ({ cls := "com/example/holdfast/holdfast/IndexStack", name := "size", desc := "()I" } : Jvm.MethodName) ({ cls := "com/example/holdfast/holdfast/IndexStack", name := "size", desc := "()I" } : Jvm.MethodName)) : Jvm.Cond).before a0 Z = true := hw _ (List.mem_of_getElem? (i := 31) rfl)
theorem w32 {Z : State} {a0 : Array Value} (hw : ∀ d ∈ tables_1, d.before a0 Z = true) : ((Jvm.Cond.code ({ cls := "com/example/holdfast/holdfast/IndexStack", name := "size", desc := "()I" } : Jvm.MethodName) prog_7_method_5_code (1 : Nat) (Option.some Jvm.ClassFile.FieldType.int)) : Jvm.Cond).before a0 Z = true := hw _ (List.mem_of_getElem? (i := 32) rfl)
theorem w33 {Z : State} {a0 : Array Value} (hw : ∀ d ∈ tables_1, d.before a0 Z = true) : ((Jvm.Cond.methodLink "com/example/holdfast/holdfast/IndexStackTakePinLaw" (23 : Nat) ({ cls := "com/example/holdfast/holdfast/IndexStack", name := "get", desc := "(I)I" } : Jvm.MethodName)) : Jvm.Cond).before a0 Z = true := hw _ (List.mem_of_getElem? (i := 33) rfl)
theorem w34 {Z : State} {a0 : Array Value} (hw : ∀ d ∈ tables_1, d.before a0 Z = true) : ((Jvm.Cond.declares ({ cls := "com/example/holdfast/holdfast/IndexStack", name := "get", desc := "(I)I" } : Jvm.MethodName)) : Jvm.Cond).before a0 Z = true := hw _ (List.mem_of_getElem? (i := 34) rfl)
theorem w35 {Z : State} {a0 : Array Value} (hw : ∀ d ∈ tables_1, d.before a0 Z = true) : ((Jvm.Cond.instanceMethod ({ cls := "com/example/holdfast/holdfast/IndexStack", name := "get", desc := "(I)I" } : Jvm.MethodName)) : Jvm.Cond).before a0 Z = true := hw _ (List.mem_of_getElem? (i := 35) rfl)
theorem w36 {Z : State} {a0 : Array Value} (hw : ∀ d ∈ tables_1, d.before a0 Z = true) : ((Jvm.Cond.selects "com/example/holdfast/holdfast/IndexStack" ({ cls := "com/example/holdfast/holdfast/IndexStack", name := "get", desc := "(I)I" } : Jvm.MethodName) ({ cls := "com/example/holdfast/holdfast/IndexStack", name := "get", desc := "(I)I" } : Jvm.MethodName)) : Jvm.Cond).before a0 Z = true := hw _ (List.mem_of_getElem? (i := 36) rfl)
theorem w37 {Z : State} {a0 : Array Value} (hw : ∀ d ∈ tables_1, d.before a0 Z = true) : ((Jvm.Cond.code ({ cls := "com/example/holdfast/holdfast/IndexStack", name := "get", desc := "(I)I" } : Jvm.MethodName) prog_7_method_6_code (2 : Nat) (Option.some Jvm.ClassFile.FieldType.int)) : Jvm.Cond).before a0 Z = true := hw _ (List.mem_of_getElem? (i := 37) rfl)
theorem d_prog_7_method_1_0 : decode prog_7_method_1_code 0 = .ok (.aload_n 0, 1) := by decide +kernel
theorem d_prog_7_method_1_1 : decode prog_7_method_1_code 1 = .ok (.invokespecial 1, 3) := by decide +kernel
theorem d_prog_7_method_1_4 : decode prog_7_method_1_code 4 = .ok (.aload_n 0, 1) := by decide +kernel
theorem d_prog_7_method_1_5 : decode prog_7_method_1_code 5 = .ok (.iload_n 1, 1) := by decide +kernel
theorem d_prog_7_method_1_6 : decode prog_7_method_1_code 6 = .ok (.newarray .int, 2) := by decide +kernel
theorem d_prog_7_method_1_8 : decode prog_7_method_1_code 8 = .ok (.putfield 7, 3) := by decide +kernel
theorem d_prog_7_method_1_11 : decode prog_7_method_1_code 11 = .ok (.aload_n 0, 1) := by decide +kernel
theorem d_prog_7_method_1_12 : decode prog_7_method_1_code 12 = .ok (.iload_n 1, 1) := by decide +kernel
theorem d_prog_7_method_1_13 : decode prog_7_method_1_code 13 = .ok (.newarray .boolean, 2) := by decide +kernel
theorem d_prog_7_method_1_15 : decode prog_7_method_1_code 15 = .ok (.putfield 13, 3) := by decide +kernel
theorem d_prog_7_method_1_18 : decode prog_7_method_1_code 18 = .ok (.return_, 1) := by decide +kernel
theorem d_prog_7_method_2_0 : decode prog_7_method_2_code 0 = .ok (.aload_n 0, 1) := by decide +kernel
theorem d_prog_7_method_2_1 : decode prog_7_method_2_code 1 = .ok (.getfield 13, 3) := by decide +kernel
theorem d_prog_7_method_2_4 : decode prog_7_method_2_code 4 = .ok (.iload_n 1, 1) := by decide +kernel
theorem d_prog_7_method_2_5 : decode prog_7_method_2_code 5 = .ok (.baload, 1) := by decide +kernel
theorem d_prog_7_method_2_6 : decode prog_7_method_2_code 6 = .ok (.ifCond .ne 27, 3) := by decide +kernel
theorem d_prog_7_method_2_9 : decode prog_7_method_2_code 9 = .ok (.aload_n 0, 1) := by decide +kernel
theorem d_prog_7_method_2_10 : decode prog_7_method_2_code 10 = .ok (.getfield 13, 3) := by decide +kernel
theorem d_prog_7_method_2_13 : decode prog_7_method_2_code 13 = .ok (.iload_n 1, 1) := by decide +kernel
theorem d_prog_7_method_2_14 : decode prog_7_method_2_code 14 = .ok (.iconst 1, 1) := by decide +kernel
theorem d_prog_7_method_2_15 : decode prog_7_method_2_code 15 = .ok (.bastore, 1) := by decide +kernel
theorem d_prog_7_method_2_16 : decode prog_7_method_2_code 16 = .ok (.aload_n 0, 1) := by decide +kernel
theorem d_prog_7_method_2_17 : decode prog_7_method_2_code 17 = .ok (.getfield 7, 3) := by decide +kernel
theorem d_prog_7_method_2_20 : decode prog_7_method_2_code 20 = .ok (.aload_n 0, 1) := by decide +kernel
theorem d_prog_7_method_2_21 : decode prog_7_method_2_code 21 = .ok (.dup, 1) := by decide +kernel
theorem d_prog_7_method_2_22 : decode prog_7_method_2_code 22 = .ok (.getfield 17, 3) := by decide +kernel
theorem d_prog_7_method_2_25 : decode prog_7_method_2_code 25 = .ok (.dup_x1, 1) := by decide +kernel
theorem d_prog_7_method_2_26 : decode prog_7_method_2_code 26 = .ok (.iconst 1, 1) := by decide +kernel
theorem d_prog_7_method_2_27 : decode prog_7_method_2_code 27 = .ok (.iadd, 1) := by decide +kernel
theorem d_prog_7_method_2_28 : decode prog_7_method_2_code 28 = .ok (.putfield 17, 3) := by decide +kernel
theorem d_prog_7_method_2_31 : decode prog_7_method_2_code 31 = .ok (.iload_n 1, 1) := by decide +kernel
theorem d_prog_7_method_2_32 : decode prog_7_method_2_code 32 = .ok (.iastore, 1) := by decide +kernel
theorem d_prog_7_method_2_33 : decode prog_7_method_2_code 33 = .ok (.return_, 1) := by decide +kernel
theorem d_prog_7_method_5_0 : decode prog_7_method_5_code 0 = .ok (.aload_n 0, 1) := by decide +kernel
theorem d_prog_7_method_5_1 : decode prog_7_method_5_code 1 = .ok (.getfield 17, 3) := by decide +kernel
theorem d_prog_7_method_5_4 : decode prog_7_method_5_code 4 = .ok (.ireturn, 1) := by decide +kernel
theorem d_prog_7_method_6_0 : decode prog_7_method_6_code 0 = .ok (.aload_n 0, 1) := by decide +kernel
theorem d_prog_7_method_6_1 : decode prog_7_method_6_code 1 = .ok (.getfield 7, 3) := by decide +kernel
theorem d_prog_7_method_6_4 : decode prog_7_method_6_code 4 = .ok (.iload_n 1, 1) := by decide +kernel
theorem d_prog_7_method_6_5 : decode prog_7_method_6_code 5 = .ok (.iaload, 1) := by decide +kernel
theorem d_prog_7_method_6_6 : decode prog_7_method_6_code 6 = .ok (.ireturn, 1) := by decide +kernel
theorem d_prog_7_method_4_0 : decode prog_7_method_4_code 0 = .ok (.aload_n 0, 1) := by decide +kernel
theorem d_prog_7_method_4_1 : decode prog_7_method_4_code 1 = .ok (.getfield 7, 3) := by decide +kernel
theorem d_prog_7_method_4_4 : decode prog_7_method_4_code 4 = .ok (.aload_n 0, 1) := by decide +kernel
theorem d_prog_7_method_4_5 : decode prog_7_method_4_code 5 = .ok (.dup, 1) := by decide +kernel
theorem d_prog_7_method_4_6 : decode prog_7_method_4_code 6 = .ok (.getfield 17, 3) := by decide +kernel
theorem d_prog_7_method_4_9 : decode prog_7_method_4_code 9 = .ok (.iconst 1, 1) := by decide +kernel
theorem d_prog_7_method_4_10 : decode prog_7_method_4_code 10 = .ok (.isub, 1) := by decide +kernel
theorem d_prog_7_method_4_11 : decode prog_7_method_4_code 11 = .ok (.dup_x1, 1) := by decide +kernel
theorem d_prog_7_method_4_12 : decode prog_7_method_4_code 12 = .ok (.putfield 17, 3) := by decide +kernel
theorem d_prog_7_method_4_15 : decode prog_7_method_4_code 15 = .ok (.iaload, 1) := by decide +kernel
theorem d_prog_7_method_4_16 : decode prog_7_method_4_code 16 = .ok (.istore_n 1, 1) := by decide +kernel
theorem d_prog_7_method_4_17 : decode prog_7_method_4_code 17 = .ok (.aload_n 0, 1) := by decide +kernel
theorem d_prog_7_method_4_18 : decode prog_7_method_4_code 18 = .ok (.getfield 13, 3) := by decide +kernel
theorem d_prog_7_method_4_21 : decode prog_7_method_4_code 21 = .ok (.iload_n 1, 1) := by decide +kernel
theorem d_prog_7_method_4_22 : decode prog_7_method_4_code 22 = .ok (.iconst 0, 1) := by decide +kernel
theorem d_prog_7_method_4_23 : decode prog_7_method_4_code 23 = .ok (.bastore, 1) := by decide +kernel
theorem d_prog_7_method_4_24 : decode prog_7_method_4_code 24 = .ok (.iload_n 1, 1) := by decide +kernel
theorem d_prog_7_method_4_25 : decode prog_7_method_4_code 25 = .ok (.ireturn, 1) := by decide +kernel
theorem pd_0 : parseMethodDescriptor "(I)V" = some ⟨[.int], none⟩ := by decide +kernel
theorem pd_1 : parseMethodDescriptor "()I" = some ⟨[], some .int⟩ := by decide +kernel
theorem pd_2 : parseMethodDescriptor "(I)I" = some ⟨[.int], some .int⟩ := by decide +kernel
theorem pn_0 : plainName "com/example/holdfast/holdfast/IndexStack" = true := by first | (simp [plainName, overriddenIn]; done) | decide +kernel
theorem pn_1 : plainName "com/example/holdfast/holdfast/IndexStackTakePinLaw" = true := by first | (simp [plainName, overriddenIn]; done) | decide +kernel

def own_St (n : Nat) (I H : Nat → Int32) (c : Int32) (xs : List Int32) : Prop := c = Int32.ofNat xs.length ∧ xs.length ≤ 4 ∧ xs.length ≤ n ∧ xs.Nodup ∧ (∀ x ∈ xs, ¬ x < 0 ∧ x.toNatClampNeg < n) ∧ (∀ i x, xs[i]? = some x → I i = x) ∧ ∀ x : Int32, ¬ x < 0 → x.toNatClampNeg < n → (H x.toNatClampNeg = 0 ↔ x ∉ xs)
section
variable {n : Nat} {I H I2 H2 : Nat → Int32} {c c2 x y a b t : Int32} {xs ys : List Int32}
theorem own_e0 : (0 : Int32).toInt = 0 := by decide
theorem own_tn (h : ¬ x < 0) : x.toNatClampNeg = x.toInt.toNat ∧ 0 ≤ x.toInt := by
  rw [Int32.lt_iff_toInt_lt, own_e0] at h
  exact ⟨rfl, by omega⟩
theorem own_inj (h : ¬ x < 0) (h' : ¬ y < 0) (e : x.toNatClampNeg = y.toNatClampNeg) : x = y := by
  have h1 := own_tn h
  have h2 := own_tn h'
  exact Int32.toInt_inj.mp (by omega)
theorem own_bd {p v : Int32} (h : ((1 : Int32) + (p &&& (7 : Int32))) = v) : ¬ v < 0 ∧ v.toNatClampNeg ≤ 8 := by
  subst h
  have h1 := c_mask p 7 3 (by omega) (by decide)
  have h2 := c_iadd 1 (p &&& 7)
  have h3 := rng32 (1 + (p &&& 7))
  have e : (1 : Int32).toInt = 1 := by decide
  have e2 : (1 + (p &&& (7 : Int32))).toNatClampNeg = (1 + (p &&& (7 : Int32))).toInt.toNat := rfl
  rw [e2, Int32.lt_iff_toInt_lt, own_e0]
  omega
theorem own_bp {p v : Int32} (h : ((1 : Int32) + (p &&& (7 : Int32))) = v) : 1 ≤ v.toInt ∧ v.toInt ≤ 8 := by
  subst h
  have h1 := c_mask p 7 3 (by omega) (by decide)
  have h2 := c_iadd 1 (p &&& 7)
  have h3 := rng32 (1 + (p &&& 7))
  have e : (1 : Int32).toInt = 1 := by decide
  omega
theorem own_nz {p v : Int32} (h : ((1 : Int32) + (p &&& (7 : Int32))) = v) : v ≠ 0 := fun q => by
  have := own_bp h
  rw [q, own_e0] at this
  omega
theorem own_rng (p q v : Int32) {w : Int32} (h : ((1 : Int32) + (p &&& (7 : Int32))) = v) (h2 : ((q &&& (2147483647 : Int32)) % v) = w) : ¬ w < 0 ∧ w.toNatClampNeg < v.toNatClampNeg := by
  have hb := own_bp h
  have h1 := c_and q 2147483647 (by decide)
  have h3 := (c_iremV (q &&& 2147483647) v).1 h1.1 (by omega)
  rw [h2] at h3
  have e1 : w.toNatClampNeg = w.toInt.toNat := rfl
  have e2 : v.toNatClampNeg = v.toInt.toNat := rfl
  rw [e1, e2, Int32.lt_iff_toInt_lt, own_e0]
  omega
theorem own_St0 : own_St n (fun _ => 0) (fun _ => 0) (0 : Int32) [] := ⟨rfl, by simp, by simp, List.nodup_nil, by simp, by simp, by simp⟩
theorem own_ofNat (k : Nat) (h : k ≤ 4) : ¬ Int32.ofNat k < 0 ∧ (Int32.ofNat k).toNatClampNeg = k ∧ (Int32.ofNat k).toInt = k := by
  have : k = 0 ∨ k = 1 ∨ k = 2 ∨ k = 3 ∨ k = 4 := by omega
  rcases this with rfl | rfl | rfl | rfl | rfl <;> decide
theorem own_cn (h : own_St n I H c xs) : ¬ c < 0 := by rw [h.1]; exact (own_ofNat _ h.2.1).1
theorem own_cl (h : own_St n I H c xs) (q : xs.length < n) : c.toNatClampNeg < n := by rw [h.1, (own_ofNat _ h.2.1).2.1]; exact q
theorem own_hz (h : own_St n I H c xs) (h1 : ¬ x < 0) (h2 : x.toNatClampNeg < n) (q : H x.toNatClampNeg = 0) : x ∉ xs := (h.2.2.2.2.2.2 x h1 h2).mp q
theorem own_cap0 (h : own_St n I H c []) (h1 : ¬ x < 0) (h2 : x.toNatClampNeg < n) (q : x ∉ ([] : List Int32)) : ([] : List Int32).length < n := by simp; omega
theorem own_cap1 (h : own_St n I H c [a]) (h1 : ¬ x < 0) (h2 : x.toNatClampNeg < n) (q : x ∉ [a]) : [a].length < n := by
  have ha := h.2.2.2.2.1 a (by simp)
  have hne : x.toNatClampNeg ≠ a.toNatClampNeg := fun e => q (by simp [own_inj h1 ha.1 e])
  simp; omega
theorem own_cap2 (h : own_St n I H c [a, b]) (h1 : ¬ x < 0) (h2 : x.toNatClampNeg < n) (q : x ∉ [a, b]) : [a, b].length < n := by
  have ha := h.2.2.2.2.1 a (by simp)
  have hb := h.2.2.2.2.1 b (by simp)
  have h1' : x.toNatClampNeg ≠ a.toNatClampNeg := fun e => q (by simp [own_inj h1 ha.1 e])
  have h2' : x.toNatClampNeg ≠ b.toNatClampNeg := fun e => q (by simp [own_inj h1 hb.1 e])
  have h3' : a.toNatClampNeg ≠ b.toNatClampNeg := fun e => by
    have := h.2.2.2.1
    rw [own_inj ha.1 hb.1 e] at this
    simp at this
  simp; omega
theorem own_addO (h : own_St n I H c xs) (hr : (¬ H x.toNatClampNeg = 0 ∧ I = I2 ∧ H = H2 ∧ c = c2) ∨ (H x.toNatClampNeg = 0 ∧ I2 = aup I c.toNatClampNeg x ∧ H2 = aup H x.toNatClampNeg 1 ∧ c2 = c + (1 : Int32))) (h1 : ¬ x < 0) (h2 : x.toNatClampNeg < n) (q : x ∈ xs) : own_St n I2 H2 c2 xs := by
  rcases hr with ⟨-, rfl, rfl, rfl⟩ | ⟨e, -⟩
  · exact h
  · exact absurd q (own_hz h h1 h2 e)
theorem own_addN (h : own_St n I H c xs) (hr : (¬ H x.toNatClampNeg = 0 ∧ I = I2 ∧ H = H2 ∧ c = c2) ∨ (H x.toNatClampNeg = 0 ∧ I2 = aup I c.toNatClampNeg x ∧ H2 = aup H x.toNatClampNeg 1 ∧ c2 = c + (1 : Int32))) (h1 : ¬ x < 0) (h2 : x.toNatClampNeg < n) (q : x ∉ xs) (hc : xs.length < n) (hl : xs.length < 4) : own_St n I2 H2 c2 (xs ++ [x]) := by
  rcases hr with ⟨e, -⟩ | ⟨-, rfl, rfl, rfl⟩
  · exact absurd ((h.2.2.2.2.2.2 x h1 h2).mpr q) e
  · obtain ⟨s1, s2, s3, s4, s5, s6, s7⟩ := h
    have hcn := own_ofNat xs.length s2
    have hcn' := own_ofNat (xs.length + 1) (by omega)
    refine ⟨?_, by simp; omega, by simp; omega, ?_, ?_, ?_, ?_⟩
    · rw [s1]
      apply Int32.toInt_inj.mp
      have e1 : (1 : Int32).toInt = 1 := by decide
      have z := c_iadd (Int32.ofNat xs.length) 1
      have z2 := rng32 (Int32.ofNat xs.length + 1)
      rw [List.length_append]
      show _ = (Int32.ofNat (xs.length + 1)).toInt
      omega
    · rw [List.nodup_append]
      exact ⟨s4, by simp, fun u hu w hw e => by rw [List.mem_singleton] at hw; subst hw; subst e; exact q hu⟩
    · intro y hy
      rw [List.mem_append, List.mem_singleton] at hy
      rcases hy with hy | rfl
      · exact s5 y hy
      · exact ⟨h1, h2⟩
    · intro i y hy
      rw [s1, hcn.2.1]
      simp only [aup]
      by_cases e : i = xs.length
      · subst e
        rw [if_pos rfl]
        simpa using hy
      · rw [if_neg e]
        have : i < xs.length := by
          have := (List.getElem?_eq_some_iff.mp hy).1
          simp at this
          omega
        rw [List.getElem?_append_left this] at hy
        exact s6 i y hy
    · intro y y1 y2
      simp only [aup]
      by_cases e : y.toNatClampNeg = x.toNatClampNeg
      · rw [if_pos e]
        have := own_inj y1 h1 e
        subst this
        exact iff_of_false (by decide) (by simp)
      · rw [if_neg e, s7 y y1 y2, List.mem_append, List.mem_singleton]
        have : y ≠ x := fun z => e (by rw [z])
        simp [this]
theorem own_tk (h : own_St n I H c (ys ++ [t])) : ¬ (c - (1 : Int32)) < 0 ∧ (c - (1 : Int32)).toNatClampNeg < n ∧ ¬ (I (c - (1 : Int32)).toNatClampNeg) < 0 ∧ (I (c - (1 : Int32)).toNatClampNeg).toNatClampNeg < n := by
  obtain ⟨s1, s2, s3, s4, s5, s6, s7⟩ := h
  have e : c - 1 = Int32.ofNat ys.length := by
    rw [s1]
    rw [List.length_append] at s2 ⊢
    have : ys.length = 0 ∨ ys.length = 1 ∨ ys.length = 2 ∨ ys.length = 3 := by simp at s2; omega
    rcases this with q | q | q | q <;> rw [q, show [t].length = 1 from rfl] <;> decide
  have hl : ys.length ≤ 4 ∧ ys.length < n := by simp at s2 s3; omega
  have ho := own_ofNat ys.length hl.1
  have hi : I ys.length = t := s6 _ _ (by simp)
  rw [e, ho.2.1, hi]
  exact ⟨ho.1, hl.2, s5 t (by simp)⟩
theorem own_take (h : own_St n I H c (ys ++ [t])) : (I (c - (1 : Int32)).toNatClampNeg) = t ∧ own_St n I (aup H (I (c - (1 : Int32)).toNatClampNeg).toNatClampNeg 0) (c - (1 : Int32)) ys ∧ t ∉ ys := by
  obtain ⟨s1, s2, s3, s4, s5, s6, s7⟩ := h
  have e : c - 1 = Int32.ofNat ys.length := by
    rw [s1]
    rw [List.length_append] at s2 ⊢
    have : ys.length = 0 ∨ ys.length = 1 ∨ ys.length = 2 ∨ ys.length = 3 := by simp at s2; omega
    rcases this with q | q | q | q <;> rw [q, show [t].length = 1 from rfl] <;> decide
  have hl : ys.length ≤ 4 ∧ ys.length < n := by simp at s2 s3; omega
  have ho := own_ofNat ys.length hl.1
  have hi : I ys.length = t := s6 _ _ (by simp)
  rw [e, ho.2.1, hi]
  have hnd : ys.Nodup ∧ t ∉ ys := by
    rw [List.nodup_append] at s4
    exact ⟨s4.1, fun q => s4.2.2 t q t (by simp) rfl⟩
  refine ⟨rfl, ⟨rfl, hl.1, by omega, hnd.1, fun x hx => s5 x (by simp [hx]), fun i x hx => s6 i x ?_, fun x x1 x2 => ?_⟩, hnd.2⟩
  · rw [List.getElem?_append_left (List.getElem?_eq_some_iff.mp hx).1]; exact hx
  · have ht := s5 t (by simp)
    simp only [aup]
    by_cases q : x.toNatClampNeg = t.toNatClampNeg
    · rw [if_pos q]
      have := own_inj x1 ht.1 q
      subst this
      exact iff_of_true rfl hnd.2
    · rw [if_neg q, s7 x x1 x2, List.mem_append, List.mem_singleton]
      have : x ≠ t := fun z => q (by rw [z])
      simp [this]
theorem own_len (h : own_St n I H c xs) : c = Int32.ofNat xs.length := h.1
theorem own_get (h : own_St n I H c xs) (i : Nat) (q : xs[i]? = some x) : I i = x := h.2.2.2.2.2.1 i x q
theorem own_ix (h : own_St n I H c xs) (i : Nat) {j : Int32} (q : j.toNatClampNeg = i) (hi : i < xs.length) : j.toNatClampNeg < n := by rw [q]; exact Nat.lt_of_lt_of_le hi h.2.2.1
end

theorem ef_rmI (m : MethodId) (a0 : Addr) (p1 : Int32) : entryFrame m #[(.ref a0), (.int p1)] 2 = mkF m 0 #[.val (.ref a0), .val (.int p1)] [] := by first | (simp [entryFrame, mkF, argsToLocals, Value.category]; done) | rfl
def Q_rmI (Z : State) (a0 : Addr) (p1 : Int32) (h0 : Heap) (n0 : Nat) (v : Option Value) (h : Heap) : Prop := ∃ (gi : Addr) (gh : Addr), v = none ∧ h0.size ≤ gi ∧ h0.size ≤ gh ∧ gi ≠ gh ∧ Keep h0 h [a0] ∧ Exa Z h a0 "com/example/holdfast/holdfast/IndexStack" ∧ Fld Z h a0 "com/example/holdfast/holdfast/IndexStack" "items" "[I" (.ref gi) ∧ Fld Z h a0 "com/example/holdfast/holdfast/IndexStack" "held" "[Z" (.ref gh) ∧ Fld Z h a0 "com/example/holdfast/holdfast/IndexStack" "count" "I" (.int (0 : Int32)) ∧ Ary Z h gi .int p1.toNatClampNeg (fun i => (.int ((fun _ => 0) i))) ∧ Ary Z h gh .boolean p1.toNatClampNeg (fun i => (.int ((fun _ => 0) i)))
set_option maxRecDepth 65536 in
set_option maxHeartbeats 40000000 in
theorem rmI (l : Launch) (Z : State) (aw : Array Value) (hw : ∀ d ∈ tables_1, d.before aw Z = true) (a0 : Addr) (p1 : Int32) (h0 : Heap) (n0 : Nat) (E_a0 : Exa Z h0 a0 "com/example/holdfast/holdfast/IndexStack") (F_a0_items : Fld Z h0 a0 "com/example/holdfast/holdfast/IndexStack" "items" "[I" .null) (F_a0_held : Fld Z h0 a0 "com/example/holdfast/holdfast/IndexStack" "held" "[Z" .null) (F_a0_count : Fld Z h0 a0 "com/example/holdfast/holdfast/IndexStack" "count" "I" (.int (0 : Int32))) (g_a0 : n0 ≤ a0) (hn : ¬ p1 < 0) (hcap : p1.toNatClampNeg ≤ 8) :
    Con l Z (⟨"com/example/holdfast/holdfast/IndexStack", "<init>", "(I)V"⟩ : MethodName) prog_7_method_1_code 2 none ({ frames := 1, cells := 2, slots := 16, locals := 12 } : Room) #[(.ref a0), (.int p1)] h0 n0 (Q_rmI Z a0 p1 h0 n0) := by
  refine Con.body (plainFor_of_name pn_0) ?_
  intro pr_ en_ st_ me_ below meth co_ T B S
  refine Goes.cast (ef_rmI me_ a0 p1) ?_
  have K : Keep h0 h0 [a0] := Keep.refl _ _
  refine Goes.go (fun _ => XS.aloadN S.here B.x rfl (B.d d_prog_7_method_1_0) rfl rfl) ?_
  show Goes _ _ _ _ T (mkF me_ 1 #[.val (.ref a0), .val (.int p1)] [(.ref a0)])
  refine Goes.initO (W := 0) S B (w8 hw) (w9 hw) (w10 hw) d_prog_7_method_1_1 rfl (by decide) (Nat.le_of_eq rfl) (by decide) ?_
  intro T S
  show Goes _ _ _ _ T (mkF me_ 4 #[.val (.ref a0), .val (.int p1)] [])
  refine Goes.go (fun _ => XS.aloadN S.here B.x rfl (B.d d_prog_7_method_1_4) rfl rfl) ?_
  show Goes _ _ _ _ T (mkF me_ 5 #[.val (.ref a0), .val (.int p1)] [(.ref a0)])
  refine Goes.go (fun _ => XS.iloadN S.here B.x rfl (B.d d_prog_7_method_1_5) rfl) ?_
  show Goes _ _ _ _ T (mkF me_ 6 #[.val (.ref a0), .val (.int p1)] [(.int p1), (.ref a0)])
  refine Goes.newP (aty := .int) (cap := 8) S B (w1 hw) d_prog_7_method_1_6 hn hcap (by decide) (by decide) (by decide) ?_
  intro T h b1 S X zb g_b1 A_b1
  have ne_a0__b1 : a0 ≠ b1 := Nat.ne_of_lt (Nat.lt_of_lt_of_le E_a0.lt (Nat.le_of_eq zb.symm))
  have z_b1 : h0.size ≤ b1 := Nat.le_trans K.1 (Nat.le_of_eq zb.symm)
  replace K := K.ext X
  replace E_a0 := E_a0.ext X
  replace F_a0_items := F_a0_items.ext X
  replace F_a0_held := F_a0_held.ext X
  replace F_a0_count := F_a0_count.ext X
  replace A_b1 : Ary Z h b1 .int p1.toNatClampNeg (fun _ => (.int 0)) := A_b1
  show Goes _ _ _ _ T (mkF me_ 8 #[.val (.ref a0), .val (.int p1)] [(.ref b1), (.ref a0)])
  refine Goes.putF (v' := (.ref b1)) S B (w11 hw) F_a0_items E_a0 (Or.inr ⟨(w12 hw), rfl, rfl⟩) (w3 hw) (ty := (.array .int)) (by decide) rfl rfl g_a0 d_prog_7_method_1_8 ?_
  intro T h S W
  replace K := K.wr W (Or.inl (by simp))
  replace E_a0 := E_a0.wr W
  replace F_a0_items := F_a0_items.same W
  replace F_a0_held := F_a0_held.other W (Or.inr (slot_ne (Or.inr (w15 hw)) (Or.inr (w12 hw)) (by decide) (t := (.array .boolean)) (t' := (.array .int)) (by decide) (by decide)))
  replace F_a0_count := F_a0_count.other W (Or.inr (slot_ne (Or.inl (w22 hw)) (Or.inr (w12 hw)) (by decide) (t := .int) (t' := (.array .int)) (by decide) (by decide)))
  replace A_b1 := A_b1.other W ne_a0__b1.symm
  show Goes _ _ _ _ T (mkF me_ 11 #[.val (.ref a0), .val (.int p1)] [])
  refine Goes.go (fun _ => XS.aloadN S.here B.x rfl (B.d d_prog_7_method_1_11) rfl rfl) ?_
  show Goes _ _ _ _ T (mkF me_ 12 #[.val (.ref a0), .val (.int p1)] [(.ref a0)])
  refine Goes.go (fun _ => XS.iloadN S.here B.x rfl (B.d d_prog_7_method_1_12) rfl) ?_
  show Goes _ _ _ _ T (mkF me_ 13 #[.val (.ref a0), .val (.int p1)] [(.int p1), (.ref a0)])
  refine Goes.newP (aty := .boolean) (cap := 8) S B (w13 hw) d_prog_7_method_1_13 hn hcap (by decide) (by decide) (by decide) ?_
  intro T h b2 S X zb g_b2 A_b2
  have ne_a0__b2 : a0 ≠ b2 := Nat.ne_of_lt (Nat.lt_of_lt_of_le E_a0.lt (Nat.le_of_eq zb.symm))
  have ne_b1__b2 : b1 ≠ b2 := Nat.ne_of_lt (Nat.lt_of_lt_of_le A_b1.lt (Nat.le_of_eq zb.symm))
  have z_b2 : h0.size ≤ b2 := Nat.le_trans K.1 (Nat.le_of_eq zb.symm)
  replace K := K.ext X
  replace E_a0 := E_a0.ext X
  replace F_a0_items := F_a0_items.ext X
  replace F_a0_held := F_a0_held.ext X
  replace F_a0_count := F_a0_count.ext X
  replace A_b1 := A_b1.ext X
  replace A_b2 : Ary Z h b2 .boolean p1.toNatClampNeg (fun _ => (.int 0)) := A_b2
  show Goes _ _ _ _ T (mkF me_ 15 #[.val (.ref a0), .val (.int p1)] [(.ref b2), (.ref a0)])
  refine Goes.putF (v' := (.ref b2)) S B (w14 hw) F_a0_held E_a0 (Or.inr ⟨(w15 hw), rfl, rfl⟩) (w3 hw) (ty := (.array .boolean)) (by decide) rfl rfl g_a0 d_prog_7_method_1_15 ?_
  intro T h S W
  replace K := K.wr W (Or.inl (by simp))
  replace E_a0 := E_a0.wr W
  replace F_a0_items := F_a0_items.other W (Or.inr (slot_ne (Or.inr (w12 hw)) (Or.inr (w15 hw)) (by decide) (t := (.array .int)) (t' := (.array .boolean)) (by decide) (by decide)))
  replace F_a0_held := F_a0_held.same W
  replace F_a0_count := F_a0_count.other W (Or.inr (slot_ne (Or.inl (w22 hw)) (Or.inr (w15 hw)) (by decide) (t := .int) (t' := (.array .boolean)) (by decide) (by decide)))
  replace A_b1 := A_b1.other W ne_a0__b1.symm
  replace A_b2 := A_b2.other W ne_a0__b2.symm
  show Goes _ _ _ _ T (mkF me_ 18 #[.val (.ref a0), .val (.int p1)] [])
  refine Goes.retV S B d_prog_7_method_1_18 (by decide) (by decide) ?_
  exact ⟨b1, b2, rfl, z_b1, z_b2, ne_b1__b2, K, E_a0, F_a0_items, F_a0_held, F_a0_count, A_b1, A_b2⟩
theorem ef_rm_add (m : MethodId) (a0 : Addr) (p1 : Int32) : entryFrame m #[(.ref a0), (.int p1)] 2 = mkF m 0 #[.val (.ref a0), .val (.int p1)] [] := by first | (simp [entryFrame, mkF, argsToLocals, Value.category]; done) | rfl
def Q_rm_add (Z : State) (a0 : Addr) (p1 : Int32) (gi : Addr) (gh : Addr) (n : Nat) (I : Nat → Int32) (H : Nat → Int32) (c : Int32) (h0 : Heap) (n0 : Nat) (v : Option Value) (h : Heap) : Prop := ∃ (I2 : Nat → Int32) (H2 : Nat → Int32) (c2 : Int32), v = none ∧ Keep h0 h [a0, gi, gh] ∧ Exa Z h a0 "com/example/holdfast/holdfast/IndexStack" ∧ Fld Z h a0 "com/example/holdfast/holdfast/IndexStack" "items" "[I" (.ref gi) ∧ Fld Z h a0 "com/example/holdfast/holdfast/IndexStack" "held" "[Z" (.ref gh) ∧ Fld Z h a0 "com/example/holdfast/holdfast/IndexStack" "count" "I" (.int c2) ∧ Ary Z h gi .int n (fun i => (.int (I2 i))) ∧ Ary Z h gh .boolean n (fun i => (.int (H2 i))) ∧ ((¬ H p1.toNatClampNeg = 0 ∧ I = I2 ∧ H = H2 ∧ c = c2) ∨ (H p1.toNatClampNeg = 0 ∧ I2 = aup I c.toNatClampNeg p1 ∧ H2 = aup H p1.toNatClampNeg 1 ∧ c2 = c + (1 : Int32)))
set_option maxRecDepth 65536 in
set_option maxHeartbeats 40000000 in
theorem rm_add (l : Launch) (Z : State) (aw : Array Value) (hw : ∀ d ∈ tables_1, d.before aw Z = true) (a0 : Addr) (p1 : Int32) (gi : Addr) (gh : Addr) (n : Nat) (I : Nat → Int32) (H : Nat → Int32) (c : Int32) (h0 : Heap) (n0 : Nat) (E_a0 : Exa Z h0 a0 "com/example/holdfast/holdfast/IndexStack") (F_a0_items : Fld Z h0 a0 "com/example/holdfast/holdfast/IndexStack" "items" "[I" (.ref gi)) (F_a0_held : Fld Z h0 a0 "com/example/holdfast/holdfast/IndexStack" "held" "[Z" (.ref gh)) (F_a0_count : Fld Z h0 a0 "com/example/holdfast/holdfast/IndexStack" "count" "I" (.int c)) (A_gi : Ary Z h0 gi .int n (fun i => (.int (I i)))) (A_gh : Ary Z h0 gh .boolean n (fun i => (.int (H i)))) (g_a0 : n0 ≤ a0) (g_gi : n0 ≤ gi) (g_gh : n0 ≤ gh) (ne_a0__gi : a0 ≠ gi) (ne_a0__gh : a0 ≠ gh) (ne_gi__gh : gi ≠ gh) (hx : ¬ p1 < 0) (hx1 : p1.toNatClampNeg < n) (hc0 : ¬ c < 0) (hc1 : H p1.toNatClampNeg = 0 → c.toNatClampNeg < n) :
    Con l Z (⟨"com/example/holdfast/holdfast/IndexStack", "add", "(I)V"⟩ : MethodName) prog_7_method_2_code 2 none ({ frames := 0, cells := 0, slots := 0, locals := 0 } : Room) #[(.ref a0), (.int p1)] h0 n0 (Q_rm_add Z a0 p1 gi gh n I H c h0 n0) := by
  refine Con.body (plainFor_of_name pn_0) ?_
  intro pr_ en_ st_ me_ below meth co_ T B S
  refine Goes.cast (ef_rm_add me_ a0 p1) ?_
  have K : Keep h0 h0 [a0, gi, gh] := Keep.refl _ _
  refine Goes.go (fun _ => XS.aloadN S.here B.x rfl (B.d d_prog_7_method_2_0) rfl rfl) ?_
  show Goes _ _ _ _ T (mkF me_ 1 #[.val (.ref a0), .val (.int p1)] [(.ref a0)])
  refine Goes.getF S B (w14 hw) F_a0_held d_prog_7_method_2_1 ?_
  intro T S
  show Goes _ _ _ _ T (mkF me_ 4 #[.val (.ref a0), .val (.int p1)] [(.ref gh)])
  refine Goes.go (fun _ => XS.iloadN S.here B.x rfl (B.d d_prog_7_method_2_4) rfl) ?_
  show Goes _ _ _ _ T (mkF me_ 5 #[.val (.ref a0), .val (.int p1)] [(.int p1), (.ref gh)])
  refine Goes.zaload S B A_gh hx hx1 d_prog_7_method_2_5 (v := (.int (H p1.toNatClampNeg))) rfl ?_
  show Goes _ _ _ _ T (mkF me_ 6 #[.val (.ref a0), .val (.int p1)] [(.int (H p1.toNatClampNeg))])
  by_cases hc6 : (H p1.toNatClampNeg) = (0 : Int32)
  · skip
    refine Goes.go (fun _ => XS.ifNo S.here B.x rfl (B.d d_prog_7_method_2_6) rfl ((if0 _ _).trans (teq hc6).2)) ?_
    show Goes _ _ _ _ T (mkF me_ 9 #[.val (.ref a0), .val (.int p1)] [])
    refine Goes.go (fun _ => XS.aloadN S.here B.x rfl (B.d d_prog_7_method_2_9) rfl rfl) ?_
    show Goes _ _ _ _ T (mkF me_ 10 #[.val (.ref a0), .val (.int p1)] [(.ref a0)])
    refine Goes.getF S B (w14 hw) F_a0_held d_prog_7_method_2_10 ?_
    intro T S
    show Goes _ _ _ _ T (mkF me_ 13 #[.val (.ref a0), .val (.int p1)] [(.ref gh)])
    refine Goes.go (fun _ => XS.iloadN S.here B.x rfl (B.d d_prog_7_method_2_13) rfl) ?_
    show Goes _ _ _ _ T (mkF me_ 14 #[.val (.ref a0), .val (.int p1)] [(.int p1), (.ref gh)])
    refine Goes.go (fun _ => XS.iconst S.here B.x rfl (B.d d_prog_7_method_2_14)) ?_
    show Goes _ _ _ _ T (mkF me_ 15 #[.val (.ref a0), .val (.int p1)] [(.int (1 : Int32)), (.int p1), (.ref gh)])
    refine Goes.zastore S B A_gh hx hx1 g_gh d_prog_7_method_2_15 ?_
    intro T h S W A_gh
    replace K := K.wr W (Or.inl (by simp))
    replace E_a0 := E_a0.wr W
    replace F_a0_items := F_a0_items.other W (Or.inl ne_a0__gh)
    replace F_a0_held := F_a0_held.other W (Or.inl ne_a0__gh)
    replace F_a0_count := F_a0_count.other W (Or.inl ne_a0__gh)
    replace A_gi := A_gi.other W ne_gi__gh
    replace A_gh : Ary Z h gh .boolean n (aup (fun i => (.int (H i))) p1.toNatClampNeg (.int (1 : Int32))) := A_gh
    rw [aup_int] at A_gh
    show Goes _ _ _ _ T (mkF me_ 16 #[.val (.ref a0), .val (.int p1)] [])
    refine Goes.go (fun _ => XS.aloadN S.here B.x rfl (B.d d_prog_7_method_2_16) rfl rfl) ?_
    show Goes _ _ _ _ T (mkF me_ 17 #[.val (.ref a0), .val (.int p1)] [(.ref a0)])
    refine Goes.getF S B (w11 hw) F_a0_items d_prog_7_method_2_17 ?_
    intro T S
    show Goes _ _ _ _ T (mkF me_ 20 #[.val (.ref a0), .val (.int p1)] [(.ref gi)])
    refine Goes.go (fun _ => XS.aloadN S.here B.x rfl (B.d d_prog_7_method_2_20) rfl rfl) ?_
    show Goes _ _ _ _ T (mkF me_ 21 #[.val (.ref a0), .val (.int p1)] [(.ref a0), (.ref gi)])
    refine Goes.go (fun _ => XS.dup S.here B.x rfl (B.d d_prog_7_method_2_21) rfl rfl) ?_
    show Goes _ _ _ _ T (mkF me_ 22 #[.val (.ref a0), .val (.int p1)] [(.ref a0), (.ref a0), (.ref gi)])
    refine Goes.getF S B (w21 hw) F_a0_count d_prog_7_method_2_22 ?_
    intro T S
    show Goes _ _ _ _ T (mkF me_ 25 #[.val (.ref a0), .val (.int p1)] [(.int c), (.ref a0), (.ref gi)])
    refine Goes.go (fun _ => XS.dupX1 S.here B.x rfl (B.d d_prog_7_method_2_25) rfl rfl rfl) ?_
    show Goes _ _ _ _ T (mkF me_ 26 #[.val (.ref a0), .val (.int p1)] [(.int c), (.ref a0), (.int c), (.ref gi)])
    refine Goes.go (fun _ => XS.iconst S.here B.x rfl (B.d d_prog_7_method_2_26)) ?_
    show Goes _ _ _ _ T (mkF me_ 27 #[.val (.ref a0), .val (.int p1)] [(.int (1 : Int32)), (.int c), (.ref a0), (.int c), (.ref gi)])
    refine Goes.go (fun _ => XS.iadd S.here B.x rfl (B.d d_prog_7_method_2_27) rfl) ?_
    show Goes _ _ _ _ T (mkF me_ 28 #[.val (.ref a0), .val (.int p1)] [(.int (c + (1 : Int32))), (.ref a0), (.int c), (.ref gi)])
    refine Goes.putF (v' := (.int (c + (1 : Int32)))) S B (w21 hw) F_a0_count E_a0 (Or.inl (w22 hw)) (w3 hw) (ty := .int) (by decide) rfl rfl g_a0 d_prog_7_method_2_28 ?_
    intro T h S W
    replace K := K.wr W (Or.inl (by simp))
    replace E_a0 := E_a0.wr W
    replace F_a0_items := F_a0_items.other W (Or.inr (slot_ne (Or.inr (w12 hw)) (Or.inl (w22 hw)) (by decide) (t := (.array .int)) (t' := .int) (by decide) (by decide)))
    replace F_a0_held := F_a0_held.other W (Or.inr (slot_ne (Or.inr (w15 hw)) (Or.inl (w22 hw)) (by decide) (t := (.array .boolean)) (t' := .int) (by decide) (by decide)))
    replace F_a0_count := F_a0_count.same W
    replace A_gi := A_gi.other W ne_a0__gi.symm
    replace A_gh := A_gh.other W ne_a0__gh.symm
    show Goes _ _ _ _ T (mkF me_ 31 #[.val (.ref a0), .val (.int p1)] [(.int c), (.ref gi)])
    refine Goes.go (fun _ => XS.iloadN S.here B.x rfl (B.d d_prog_7_method_2_31) rfl) ?_
    show Goes _ _ _ _ T (mkF me_ 32 #[.val (.ref a0), .val (.int p1)] [(.int p1), (.int c), (.ref gi)])
    refine Goes.iastore S B A_gi hc0 (hc1 hc6) g_gi d_prog_7_method_2_32 ?_
    intro T h S W A_gi
    replace K := K.wr W (Or.inl (by simp))
    replace E_a0 := E_a0.wr W
    replace F_a0_items := F_a0_items.other W (Or.inl ne_a0__gi)
    replace F_a0_held := F_a0_held.other W (Or.inl ne_a0__gi)
    replace F_a0_count := F_a0_count.other W (Or.inl ne_a0__gi)
    replace A_gh := A_gh.other W ne_gi__gh.symm
    replace A_gi : Ary Z h gi .int n (aup (fun i => (.int (I i))) c.toNatClampNeg (.int p1)) := A_gi
    rw [aup_int] at A_gi
    show Goes _ _ _ _ T (mkF me_ 33 #[.val (.ref a0), .val (.int p1)] [])
    refine Goes.retV S B d_prog_7_method_2_33 (by decide) (by decide) ?_
    exact ⟨_, _, _, rfl, K, E_a0, F_a0_items, F_a0_held, F_a0_count, A_gi, A_gh, Or.inr ⟨hc6, rfl, rfl, rfl⟩⟩
  · skip
    refine Goes.go (fun _ => XS.ifYes S.here B.x rfl (pc0 := 6) (pc' := 33) rfl (B.d d_prog_7_method_2_6) rfl ((if0 _ _).trans (feq hc6).2) (by decide) (by decide)) ?_
    show Goes _ _ _ _ T (mkF me_ 33 #[.val (.ref a0), .val (.int p1)] [])
    refine Goes.retV S B d_prog_7_method_2_33 (by decide) (by decide) ?_
    exact ⟨_, _, _, rfl, K, E_a0, F_a0_items, F_a0_held, F_a0_count, A_gi, A_gh, Or.inl ⟨hc6, rfl, rfl, rfl⟩⟩
theorem ef_rm_size (m : MethodId) (a0 : Addr) : entryFrame m #[(.ref a0)] 1 = mkF m 0 #[.val (.ref a0)] [] := by first | (simp [entryFrame, mkF, argsToLocals, Value.category]; done) | rfl
def Q_rm_size (Z : State) (a0 : Addr) (c : Int32) (h0 : Heap) (n0 : Nat) (v : Option Value) (h : Heap) : Prop := v = some (.int c) ∧ h = h0
set_option maxRecDepth 65536 in
set_option maxHeartbeats 40000000 in
theorem rm_size (l : Launch) (Z : State) (aw : Array Value) (hw : ∀ d ∈ tables_1, d.before aw Z = true) (a0 : Addr) (c : Int32) (h0 : Heap) (n0 : Nat) (F_a0_count : Fld Z h0 a0 "com/example/holdfast/holdfast/IndexStack" "count" "I" (.int c)) :
    Con l Z (⟨"com/example/holdfast/holdfast/IndexStack", "size", "()I"⟩ : MethodName) prog_7_method_5_code 1 (some .int) ({ frames := 0, cells := 0, slots := 0, locals := 0 } : Room) #[(.ref a0)] h0 n0 (Q_rm_size Z a0 c h0 n0) := by
  refine Con.body (plainFor_of_name pn_0) ?_
  intro pr_ en_ st_ me_ below meth co_ T B S
  refine Goes.cast (ef_rm_size me_ a0) ?_
  refine Goes.go (fun _ => XS.aloadN S.here B.x rfl (B.d d_prog_7_method_5_0) rfl rfl) ?_
  show Goes _ _ _ _ T (mkF me_ 1 #[.val (.ref a0)] [(.ref a0)])
  refine Goes.getF S B (w21 hw) F_a0_count d_prog_7_method_5_1 ?_
  intro T S
  show Goes _ _ _ _ T (mkF me_ 4 #[.val (.ref a0)] [(.int c)])
  refine Goes.retI S B d_prog_7_method_5_4 (by decide) (by decide) ?_
  exact ⟨(by first | rfl | (rw [bi_pos (by assumption)]; rfl) | (rw [bi_neg (by assumption)]; rfl) | (rw [nar_bi]; exact congrArg (fun z => some (Value.int z)) (bi_congr (by simp_all))) | (simp_all [bi, nar]; done)), rfl⟩
theorem ef_rm_get (m : MethodId) (a0 : Addr) (p1 : Int32) : entryFrame m #[(.ref a0), (.int p1)] 2 = mkF m 0 #[.val (.ref a0), .val (.int p1)] [] := by first | (simp [entryFrame, mkF, argsToLocals, Value.category]; done) | rfl
def Q_rm_get (Z : State) (a0 : Addr) (p1 : Int32) (gi : Addr) (n : Nat) (I : Nat → Int32) (h0 : Heap) (n0 : Nat) (v : Option Value) (h : Heap) : Prop := v = some (.int (I p1.toNatClampNeg)) ∧ h = h0
set_option maxRecDepth 65536 in
set_option maxHeartbeats 40000000 in
theorem rm_get (l : Launch) (Z : State) (aw : Array Value) (hw : ∀ d ∈ tables_1, d.before aw Z = true) (a0 : Addr) (p1 : Int32) (gi : Addr) (n : Nat) (I : Nat → Int32) (h0 : Heap) (n0 : Nat) (F_a0_items : Fld Z h0 a0 "com/example/holdfast/holdfast/IndexStack" "items" "[I" (.ref gi)) (A_gi : Ary Z h0 gi .int n (fun i => (.int (I i)))) (hx : ¬ p1 < 0) (hx1 : p1.toNatClampNeg < n) :
    Con l Z (⟨"com/example/holdfast/holdfast/IndexStack", "get", "(I)I"⟩ : MethodName) prog_7_method_6_code 2 (some .int) ({ frames := 0, cells := 0, slots := 0, locals := 0 } : Room) #[(.ref a0), (.int p1)] h0 n0 (Q_rm_get Z a0 p1 gi n I h0 n0) := by
  refine Con.body (plainFor_of_name pn_0) ?_
  intro pr_ en_ st_ me_ below meth co_ T B S
  refine Goes.cast (ef_rm_get me_ a0 p1) ?_
  refine Goes.go (fun _ => XS.aloadN S.here B.x rfl (B.d d_prog_7_method_6_0) rfl rfl) ?_
  show Goes _ _ _ _ T (mkF me_ 1 #[.val (.ref a0), .val (.int p1)] [(.ref a0)])
  refine Goes.getF S B (w11 hw) F_a0_items d_prog_7_method_6_1 ?_
  intro T S
  show Goes _ _ _ _ T (mkF me_ 4 #[.val (.ref a0), .val (.int p1)] [(.ref gi)])
  refine Goes.go (fun _ => XS.iloadN S.here B.x rfl (B.d d_prog_7_method_6_4) rfl) ?_
  show Goes _ _ _ _ T (mkF me_ 5 #[.val (.ref a0), .val (.int p1)] [(.int p1), (.ref gi)])
  refine Goes.iaload S B A_gi hx hx1 d_prog_7_method_6_5 (v := (.int (I p1.toNatClampNeg))) rfl ?_
  show Goes _ _ _ _ T (mkF me_ 6 #[.val (.ref a0), .val (.int p1)] [(.int (I p1.toNatClampNeg))])
  refine Goes.retI S B d_prog_7_method_6_6 (by decide) (by decide) ?_
  exact ⟨(by first | rfl | (rw [bi_pos (by assumption)]; rfl) | (rw [bi_neg (by assumption)]; rfl) | (rw [nar_bi]; exact congrArg (fun z => some (Value.int z)) (bi_congr (by simp_all))) | (simp_all [bi, nar]; done)), rfl⟩
theorem ef_rm_take (m : MethodId) (a0 : Addr) : entryFrame m #[(.ref a0)] 2 = mkF m 0 #[.val (.ref a0), .unset] [] := by first | (simp [entryFrame, mkF, argsToLocals, Value.category]; done) | rfl
def Q_rm_take (Z : State) (a0 : Addr) (gi : Addr) (gh : Addr) (n : Nat) (I : Nat → Int32) (H : Nat → Int32) (c : Int32) (h0 : Heap) (n0 : Nat) (v : Option Value) (h : Heap) : Prop := v = some (.int (I (c - (1 : Int32)).toNatClampNeg)) ∧ Keep h0 h [a0, gi, gh] ∧ Exa Z h a0 "com/example/holdfast/holdfast/IndexStack" ∧ Fld Z h a0 "com/example/holdfast/holdfast/IndexStack" "items" "[I" (.ref gi) ∧ Fld Z h a0 "com/example/holdfast/holdfast/IndexStack" "held" "[Z" (.ref gh) ∧ Fld Z h a0 "com/example/holdfast/holdfast/IndexStack" "count" "I" (.int (c - (1 : Int32))) ∧ Ary Z h gi .int n (fun i => (.int (I i))) ∧ Ary Z h gh .boolean n (fun i => (.int ((aup H (I (c - (1 : Int32)).toNatClampNeg).toNatClampNeg 0) i)))
set_option maxRecDepth 65536 in
set_option maxHeartbeats 40000000 in
theorem rm_take (l : Launch) (Z : State) (aw : Array Value) (hw : ∀ d ∈ tables_1, d.before aw Z = true) (a0 : Addr) (gi : Addr) (gh : Addr) (n : Nat) (I : Nat → Int32) (H : Nat → Int32) (c : Int32) (h0 : Heap) (n0 : Nat) (E_a0 : Exa Z h0 a0 "com/example/holdfast/holdfast/IndexStack") (F_a0_items : Fld Z h0 a0 "com/example/holdfast/holdfast/IndexStack" "items" "[I" (.ref gi)) (F_a0_held : Fld Z h0 a0 "com/example/holdfast/holdfast/IndexStack" "held" "[Z" (.ref gh)) (F_a0_count : Fld Z h0 a0 "com/example/holdfast/holdfast/IndexStack" "count" "I" (.int c)) (A_gi : Ary Z h0 gi .int n (fun i => (.int (I i)))) (A_gh : Ary Z h0 gh .boolean n (fun i => (.int (H i)))) (g_a0 : n0 ≤ a0) (g_gi : n0 ≤ gi) (g_gh : n0 ≤ gh) (ne_a0__gi : a0 ≠ gi) (ne_a0__gh : a0 ≠ gh) (ne_gi__gh : gi ≠ gh) (hc0 : ¬ (c - (1 : Int32)) < 0) (hc1 : (c - (1 : Int32)).toNatClampNeg < n) (hx : ¬ (I (c - (1 : Int32)).toNatClampNeg) < 0) (hx1 : (I (c - (1 : Int32)).toNatClampNeg).toNatClampNeg < n) :
    Con l Z (⟨"com/example/holdfast/holdfast/IndexStack", "take", "()I"⟩ : MethodName) prog_7_method_4_code 2 (some .int) ({ frames := 0, cells := 0, slots := 0, locals := 0 } : Room) #[(.ref a0)] h0 n0 (Q_rm_take Z a0 gi gh n I H c h0 n0) := by
  refine Con.body (plainFor_of_name pn_0) ?_
  intro pr_ en_ st_ me_ below meth co_ T B S
  refine Goes.cast (ef_rm_take me_ a0) ?_
  have K : Keep h0 h0 [a0, gi, gh] := Keep.refl _ _
  refine Goes.go (fun _ => XS.aloadN S.here B.x rfl (B.d d_prog_7_method_4_0) rfl rfl) ?_
  show Goes _ _ _ _ T (mkF me_ 1 #[.val (.ref a0), .unset] [(.ref a0)])
  refine Goes.getF S B (w11 hw) F_a0_items d_prog_7_method_4_1 ?_
  intro T S
  show Goes _ _ _ _ T (mkF me_ 4 #[.val (.ref a0), .unset] [(.ref gi)])
  refine Goes.go (fun _ => XS.aloadN S.here B.x rfl (B.d d_prog_7_method_4_4) rfl rfl) ?_
  show Goes _ _ _ _ T (mkF me_ 5 #[.val (.ref a0), .unset] [(.ref a0), (.ref gi)])
  refine Goes.go (fun _ => XS.dup S.here B.x rfl (B.d d_prog_7_method_4_5) rfl rfl) ?_
  show Goes _ _ _ _ T (mkF me_ 6 #[.val (.ref a0), .unset] [(.ref a0), (.ref a0), (.ref gi)])
  refine Goes.getF S B (w21 hw) F_a0_count d_prog_7_method_4_6 ?_
  intro T S
  show Goes _ _ _ _ T (mkF me_ 9 #[.val (.ref a0), .unset] [(.int c), (.ref a0), (.ref gi)])
  refine Goes.go (fun _ => XS.iconst S.here B.x rfl (B.d d_prog_7_method_4_9)) ?_
  show Goes _ _ _ _ T (mkF me_ 10 #[.val (.ref a0), .unset] [(.int (1 : Int32)), (.int c), (.ref a0), (.ref gi)])
  refine Goes.go (fun _ => XS.isub S.here B.x rfl (B.d d_prog_7_method_4_10) rfl) ?_
  show Goes _ _ _ _ T (mkF me_ 11 #[.val (.ref a0), .unset] [(.int (c - (1 : Int32))), (.ref a0), (.ref gi)])
  refine Goes.go (fun _ => XS.dupX1 S.here B.x rfl (B.d d_prog_7_method_4_11) rfl rfl rfl) ?_
  show Goes _ _ _ _ T (mkF me_ 12 #[.val (.ref a0), .unset] [(.int (c - (1 : Int32))), (.ref a0), (.int (c - (1 : Int32))), (.ref gi)])
  refine Goes.putF (v' := (.int (c - (1 : Int32)))) S B (w21 hw) F_a0_count E_a0 (Or.inl (w22 hw)) (w3 hw) (ty := .int) (by decide) rfl rfl g_a0 d_prog_7_method_4_12 ?_
  intro T h S W
  replace K := K.wr W (Or.inl (by simp))
  replace E_a0 := E_a0.wr W
  replace F_a0_items := F_a0_items.other W (Or.inr (slot_ne (Or.inr (w12 hw)) (Or.inl (w22 hw)) (by decide) (t := (.array .int)) (t' := .int) (by decide) (by decide)))
  replace F_a0_held := F_a0_held.other W (Or.inr (slot_ne (Or.inr (w15 hw)) (Or.inl (w22 hw)) (by decide) (t := (.array .boolean)) (t' := .int) (by decide) (by decide)))
  replace F_a0_count := F_a0_count.same W
  replace A_gi := A_gi.other W ne_a0__gi.symm
  replace A_gh := A_gh.other W ne_a0__gh.symm
  show Goes _ _ _ _ T (mkF me_ 15 #[.val (.ref a0), .unset] [(.int (c - (1 : Int32))), (.ref gi)])
  refine Goes.iaload S B A_gi hc0 hc1 d_prog_7_method_4_15 (v := (.int (I (c - (1 : Int32)).toNatClampNeg))) rfl ?_
  show Goes _ _ _ _ T (mkF me_ 16 #[.val (.ref a0), .unset] [(.int (I (c - (1 : Int32)).toNatClampNeg))])
  refine Goes.go (fun _ => XS.istoreN S.here B.x rfl (B.d d_prog_7_method_4_16) rfl (l' := #[.val (.ref a0), .val (.int (I (c - (1 : Int32)).toNatClampNeg))]) rfl) ?_
  show Goes _ _ _ _ T (mkF me_ 17 #[.val (.ref a0), .val (.int (I (c - (1 : Int32)).toNatClampNeg))] [])
  refine Goes.go (fun _ => XS.aloadN S.here B.x rfl (B.d d_prog_7_method_4_17) rfl rfl) ?_
  show Goes _ _ _ _ T (mkF me_ 18 #[.val (.ref a0), .val (.int (I (c - (1 : Int32)).toNatClampNeg))] [(.ref a0)])
  refine Goes.getF S B (w14 hw) F_a0_held d_prog_7_method_4_18 ?_
  intro T S
  show Goes _ _ _ _ T (mkF me_ 21 #[.val (.ref a0), .val (.int (I (c - (1 : Int32)).toNatClampNeg))] [(.ref gh)])
  refine Goes.go (fun _ => XS.iloadN S.here B.x rfl (B.d d_prog_7_method_4_21) rfl) ?_
  show Goes _ _ _ _ T (mkF me_ 22 #[.val (.ref a0), .val (.int (I (c - (1 : Int32)).toNatClampNeg))] [(.int (I (c - (1 : Int32)).toNatClampNeg)), (.ref gh)])
  refine Goes.go (fun _ => XS.iconst S.here B.x rfl (B.d d_prog_7_method_4_22)) ?_
  show Goes _ _ _ _ T (mkF me_ 23 #[.val (.ref a0), .val (.int (I (c - (1 : Int32)).toNatClampNeg))] [(.int (0 : Int32)), (.int (I (c - (1 : Int32)).toNatClampNeg)), (.ref gh)])
  refine Goes.zastore S B A_gh hx hx1 g_gh d_prog_7_method_4_23 ?_
  intro T h S W A_gh
  replace K := K.wr W (Or.inl (by simp))
  replace E_a0 := E_a0.wr W
  replace F_a0_items := F_a0_items.other W (Or.inl ne_a0__gh)
  replace F_a0_held := F_a0_held.other W (Or.inl ne_a0__gh)
  replace F_a0_count := F_a0_count.other W (Or.inl ne_a0__gh)
  replace A_gi := A_gi.other W ne_gi__gh
  replace A_gh : Ary Z h gh .boolean n (aup (fun i => (.int (H i))) (I (c - (1 : Int32)).toNatClampNeg).toNatClampNeg (.int (0 : Int32))) := A_gh
  rw [aup_int] at A_gh
  show Goes _ _ _ _ T (mkF me_ 24 #[.val (.ref a0), .val (.int (I (c - (1 : Int32)).toNatClampNeg))] [])
  refine Goes.go (fun _ => XS.iloadN S.here B.x rfl (B.d d_prog_7_method_4_24) rfl) ?_
  show Goes _ _ _ _ T (mkF me_ 25 #[.val (.ref a0), .val (.int (I (c - (1 : Int32)).toNatClampNeg))] [(.int (I (c - (1 : Int32)).toNatClampNeg))])
  refine Goes.retI S B d_prog_7_method_4_25 (by decide) (by decide) ?_
  exact ⟨(by first | rfl | (rw [bi_pos (by assumption)]; rfl) | (rw [bi_neg (by assumption)]; rfl) | (rw [nar_bi]; exact congrArg (fun z => some (Value.int z)) (bi_congr (by simp_all))) | (simp_all [bi, nar]; done)), K, (by first | exact E_a0 | (simpa using E_a0)), (by first | exact F_a0_items | (simpa using F_a0_items)), (by first | exact F_a0_held | (simpa using F_a0_held)), (by first | exact F_a0_count | (simpa using F_a0_count)), (by first | exact A_gi | (simpa using A_gi)), (by first | exact A_gh | (simpa using A_gh))⟩
theorem ef_rm0 (m : MethodId) (p0 : Int32) (p1 : Int32) (p2 : Int32) (p3 : Int32) : entryFrame m #[(.int p0), (.int p1), (.int p2), (.int p3)] maxLocals = mkF m 0 #[.val (.int p0), .val (.int p1), .val (.int p2), .val (.int p3), .unset, .unset, .unset, .unset, .unset, .unset, .unset, .unset, .unset] [] := by first | (simp [entryFrame, mkF, argsToLocals, Value.category, maxLocals]; done) | rfl
def Q_rm0 (Z : State) (p0 : Int32) (p1 : Int32) (p2 : Int32) (p3 : Int32) (h0 : Heap) (n0 : Nat) (v : Option Value) (h : Heap) : Prop := v = some (.int 1)
set_option maxRecDepth 65536 in
set_option maxHeartbeats 40000000 in
theorem rm0 (l : Launch) (Z : State) (aw : Array Value) (hw : ∀ d ∈ tables_1, d.before aw Z = true) (p0 : Int32) (p1 : Int32) (p2 : Int32) (p3 : Int32) (h0 : Heap) (n0 : Nat) :
    Con l Z x code maxLocals ret room_1 #[(.int p0), (.int p1), (.int p2), (.int p3)] h0 n0 (Q_rm0 Z p0 p1 p2 p3 h0 n0) := by
  refine Con.body (plainFor_of_name pn_1) ?_
  intro pr_ en_ st_ me_ below meth co_ T B S
  refine Goes.cast (ef_rm0 me_ p0 p1 p2 p3) ?_
  refine Goes.go (fun _ => XS.iconst S.here B.x rfl (B.d at_0)) ?_
  show Goes _ _ _ _ T (mkF me_ 1 #[.val (.int p0), .val (.int p1), .val (.int p2), .val (.int p3), .unset, .unset, .unset, .unset, .unset, .unset, .unset, .unset, .unset] [(.int (1 : Int32))])
  refine Goes.go (fun _ => XS.iloadN S.here B.x rfl (B.d at_1) rfl) ?_
  show Goes _ _ _ _ T (mkF me_ 2 #[.val (.int p0), .val (.int p1), .val (.int p2), .val (.int p3), .unset, .unset, .unset, .unset, .unset, .unset, .unset, .unset, .unset] [(.int p0), (.int (1 : Int32))])
  refine Goes.go (fun _ => XS.bipush S.here B.x rfl (B.d at_2)) ?_
  show Goes _ _ _ _ T (mkF me_ 4 #[.val (.int p0), .val (.int p1), .val (.int p2), .val (.int p3), .unset, .unset, .unset, .unset, .unset, .unset, .unset, .unset, .unset] [(.int (7 : Int32)), (.int p0), (.int (1 : Int32))])
  refine Goes.go (fun _ => XS.iand S.here B.x rfl (B.d at_4) rfl) ?_
  show Goes _ _ _ _ T (mkF me_ 5 #[.val (.int p0), .val (.int p1), .val (.int p2), .val (.int p3), .unset, .unset, .unset, .unset, .unset, .unset, .unset, .unset, .unset] [(.int (p0 &&& (7 : Int32))), (.int (1 : Int32))])
  refine Goes.go (fun _ => XS.iadd S.here B.x rfl (B.d at_5) rfl) ?_
  show Goes _ _ _ _ T (mkF me_ 6 #[.val (.int p0), .val (.int p1), .val (.int p2), .val (.int p3), .unset, .unset, .unset, .unset, .unset, .unset, .unset, .unset, .unset] [(.int ((1 : Int32) + (p0 &&& (7 : Int32))))])
  generalize hv1 : ((1 : Int32) + (p0 &&& (7 : Int32))) = v1
  refine Goes.go (fun _ => XS.istore S.here B.x rfl (B.d at_6) rfl (l' := #[.val (.int p0), .val (.int p1), .val (.int p2), .val (.int p3), .val (.int v1), .unset, .unset, .unset, .unset, .unset, .unset, .unset, .unset]) rfl) ?_
  show Goes _ _ _ _ T (mkF me_ 8 #[.val (.int p0), .val (.int p1), .val (.int p2), .val (.int p3), .val (.int v1), .unset, .unset, .unset, .unset, .unset, .unset, .unset, .unset] [])
  refine Goes.go (fun _ => XS.iloadN S.here B.x rfl (B.d at_8) rfl) ?_
  show Goes _ _ _ _ T (mkF me_ 9 #[.val (.int p0), .val (.int p1), .val (.int p2), .val (.int p3), .val (.int v1), .unset, .unset, .unset, .unset, .unset, .unset, .unset, .unset] [(.int p1)])
  refine Goes.ldcI S B (w0 hw) at_9 ?_
  show Goes _ _ _ _ T (mkF me_ 11 #[.val (.int p0), .val (.int p1), .val (.int p2), .val (.int p3), .val (.int v1), .unset, .unset, .unset, .unset, .unset, .unset, .unset, .unset] [(.int (2147483647 : Int32)), (.int p1)])
  refine Goes.go (fun _ => XS.iand S.here B.x rfl (B.d at_11) rfl) ?_
  show Goes _ _ _ _ T (mkF me_ 12 #[.val (.int p0), .val (.int p1), .val (.int p2), .val (.int p3), .val (.int v1), .unset, .unset, .unset, .unset, .unset, .unset, .unset, .unset] [(.int (p1 &&& (2147483647 : Int32)))])
  refine Goes.go (fun _ => XS.iload S.here B.x rfl (B.d at_12) rfl) ?_
  show Goes _ _ _ _ T (mkF me_ 14 #[.val (.int p0), .val (.int p1), .val (.int p2), .val (.int p3), .val (.int v1), .unset, .unset, .unset, .unset, .unset, .unset, .unset, .unset] [(.int v1), (.int (p1 &&& (2147483647 : Int32)))])
  refine Goes.irem S B at_14 (own_nz hv1) ?_
  show Goes _ _ _ _ T (mkF me_ 15 #[.val (.int p0), .val (.int p1), .val (.int p2), .val (.int p3), .val (.int v1), .unset, .unset, .unset, .unset, .unset, .unset, .unset, .unset] [(.int ((p1 &&& (2147483647 : Int32)) % v1))])
  generalize hv2 : ((p1 &&& (2147483647 : Int32)) % v1) = v2
  refine Goes.go (fun _ => XS.istore S.here B.x rfl (B.d at_15) rfl (l' := #[.val (.int p0), .val (.int p1), .val (.int p2), .val (.int p3), .val (.int v1), .val (.int v2), .unset, .unset, .unset, .unset, .unset, .unset, .unset]) rfl) ?_
  show Goes _ _ _ _ T (mkF me_ 17 #[.val (.int p0), .val (.int p1), .val (.int p2), .val (.int p3), .val (.int v1), .val (.int v2), .unset, .unset, .unset, .unset, .unset, .unset, .unset] [])
  refine Goes.go (fun _ => XS.iloadN S.here B.x rfl (B.d at_17) rfl) ?_
  show Goes _ _ _ _ T (mkF me_ 18 #[.val (.int p0), .val (.int p1), .val (.int p2), .val (.int p3), .val (.int v1), .val (.int v2), .unset, .unset, .unset, .unset, .unset, .unset, .unset] [(.int p2)])
  refine Goes.ldcI S B (w0 hw) at_18 ?_
  show Goes _ _ _ _ T (mkF me_ 20 #[.val (.int p0), .val (.int p1), .val (.int p2), .val (.int p3), .val (.int v1), .val (.int v2), .unset, .unset, .unset, .unset, .unset, .unset, .unset] [(.int (2147483647 : Int32)), (.int p2)])
  refine Goes.go (fun _ => XS.iand S.here B.x rfl (B.d at_20) rfl) ?_
  show Goes _ _ _ _ T (mkF me_ 21 #[.val (.int p0), .val (.int p1), .val (.int p2), .val (.int p3), .val (.int v1), .val (.int v2), .unset, .unset, .unset, .unset, .unset, .unset, .unset] [(.int (p2 &&& (2147483647 : Int32)))])
  refine Goes.go (fun _ => XS.iload S.here B.x rfl (B.d at_21) rfl) ?_
  show Goes _ _ _ _ T (mkF me_ 23 #[.val (.int p0), .val (.int p1), .val (.int p2), .val (.int p3), .val (.int v1), .val (.int v2), .unset, .unset, .unset, .unset, .unset, .unset, .unset] [(.int v1), (.int (p2 &&& (2147483647 : Int32)))])
  refine Goes.irem S B at_23 (own_nz hv1) ?_
  show Goes _ _ _ _ T (mkF me_ 24 #[.val (.int p0), .val (.int p1), .val (.int p2), .val (.int p3), .val (.int v1), .val (.int v2), .unset, .unset, .unset, .unset, .unset, .unset, .unset] [(.int ((p2 &&& (2147483647 : Int32)) % v1))])
  generalize hv3 : ((p2 &&& (2147483647 : Int32)) % v1) = v3
  refine Goes.go (fun _ => XS.istore S.here B.x rfl (B.d at_24) rfl (l' := #[.val (.int p0), .val (.int p1), .val (.int p2), .val (.int p3), .val (.int v1), .val (.int v2), .val (.int v3), .unset, .unset, .unset, .unset, .unset, .unset]) rfl) ?_
  show Goes _ _ _ _ T (mkF me_ 26 #[.val (.int p0), .val (.int p1), .val (.int p2), .val (.int p3), .val (.int v1), .val (.int v2), .val (.int v3), .unset, .unset, .unset, .unset, .unset, .unset] [])
  refine Goes.go (fun _ => XS.iloadN S.here B.x rfl (B.d at_26) rfl) ?_
  show Goes _ _ _ _ T (mkF me_ 27 #[.val (.int p0), .val (.int p1), .val (.int p2), .val (.int p3), .val (.int v1), .val (.int v2), .val (.int v3), .unset, .unset, .unset, .unset, .unset, .unset] [(.int p3)])
  refine Goes.ldcI S B (w0 hw) at_27 ?_
  show Goes _ _ _ _ T (mkF me_ 29 #[.val (.int p0), .val (.int p1), .val (.int p2), .val (.int p3), .val (.int v1), .val (.int v2), .val (.int v3), .unset, .unset, .unset, .unset, .unset, .unset] [(.int (2147483647 : Int32)), (.int p3)])
  refine Goes.go (fun _ => XS.iand S.here B.x rfl (B.d at_29) rfl) ?_
  show Goes _ _ _ _ T (mkF me_ 30 #[.val (.int p0), .val (.int p1), .val (.int p2), .val (.int p3), .val (.int v1), .val (.int v2), .val (.int v3), .unset, .unset, .unset, .unset, .unset, .unset] [(.int (p3 &&& (2147483647 : Int32)))])
  refine Goes.go (fun _ => XS.iload S.here B.x rfl (B.d at_30) rfl) ?_
  show Goes _ _ _ _ T (mkF me_ 32 #[.val (.int p0), .val (.int p1), .val (.int p2), .val (.int p3), .val (.int v1), .val (.int v2), .val (.int v3), .unset, .unset, .unset, .unset, .unset, .unset] [(.int v1), (.int (p3 &&& (2147483647 : Int32)))])
  refine Goes.irem S B at_32 (own_nz hv1) ?_
  show Goes _ _ _ _ T (mkF me_ 33 #[.val (.int p0), .val (.int p1), .val (.int p2), .val (.int p3), .val (.int v1), .val (.int v2), .val (.int v3), .unset, .unset, .unset, .unset, .unset, .unset] [(.int ((p3 &&& (2147483647 : Int32)) % v1))])
  generalize hv4 : ((p3 &&& (2147483647 : Int32)) % v1) = v4
  refine Goes.go (fun _ => XS.istore S.here B.x rfl (B.d at_33) rfl (l' := #[.val (.int p0), .val (.int p1), .val (.int p2), .val (.int p3), .val (.int v1), .val (.int v2), .val (.int v3), .val (.int v4), .unset, .unset, .unset, .unset, .unset]) rfl) ?_
  show Goes _ _ _ _ T (mkF me_ 35 #[.val (.int p0), .val (.int p1), .val (.int p2), .val (.int p3), .val (.int v1), .val (.int v2), .val (.int v3), .val (.int v4), .unset, .unset, .unset, .unset, .unset] [])
  have rv2 := own_rng _ _ _ hv1 hv2
  have rv3 := own_rng _ _ _ hv1 hv3
  have rv4 := own_rng _ _ _ hv1 hv4
  refine Goes.go (fun _ => XS.iconst S.here B.x rfl (B.d at_35)) ?_
  show Goes _ _ _ _ T (mkF me_ 36 #[.val (.int p0), .val (.int p1), .val (.int p2), .val (.int p3), .val (.int v1), .val (.int v2), .val (.int v3), .val (.int v4), .unset, .unset, .unset, .unset, .unset] [(.int (3 : Int32))])
  refine Goes.newP (aty := .int) (cap := 3) S B (w1 hw) at_36 (by decide) (by decide) (by decide) (by decide) (by decide) ?_
  intro T h b5 S X zb g_b5 A_b5
  replace A_b5 : Ary Z h b5 .int 3 (fun _ => (.int 0)) := A_b5
  show Goes _ _ _ _ T (mkF me_ 38 #[.val (.int p0), .val (.int p1), .val (.int p2), .val (.int p3), .val (.int v1), .val (.int v2), .val (.int v3), .val (.int v4), .unset, .unset, .unset, .unset, .unset] [(.ref b5)])
  refine Goes.go (fun _ => XS.astore S.here B.x rfl (B.d at_38) rfl rfl (l' := #[.val (.int p0), .val (.int p1), .val (.int p2), .val (.int p3), .val (.int v1), .val (.int v2), .val (.int v3), .val (.int v4), .val (.ref b5), .unset, .unset, .unset, .unset]) rfl) ?_
  show Goes _ _ _ _ T (mkF me_ 40 #[.val (.int p0), .val (.int p1), .val (.int p2), .val (.int p3), .val (.int v1), .val (.int v2), .val (.int v3), .val (.int v4), .val (.ref b5), .unset, .unset, .unset, .unset] [])
  refine Goes.go (fun _ => XS.iconst S.here B.x rfl (B.d at_40)) ?_
  show Goes _ _ _ _ T (mkF me_ 41 #[.val (.int p0), .val (.int p1), .val (.int p2), .val (.int p3), .val (.int v1), .val (.int v2), .val (.int v3), .val (.int v4), .val (.ref b5), .unset, .unset, .unset, .unset] [(.int (1 : Int32))])
  refine Goes.go (fun _ => XS.istore S.here B.x rfl (B.d at_41) rfl (l' := #[.val (.int p0), .val (.int p1), .val (.int p2), .val (.int p3), .val (.int v1), .val (.int v2), .val (.int v3), .val (.int v4), .val (.ref b5), .val (.int (1 : Int32)), .unset, .unset, .unset]) rfl) ?_
  show Goes _ _ _ _ T (mkF me_ 43 #[.val (.int p0), .val (.int p1), .val (.int p2), .val (.int p3), .val (.int v1), .val (.int v2), .val (.int v3), .val (.int v4), .val (.ref b5), .val (.int (1 : Int32)), .unset, .unset, .unset] [])
  refine Goes.go (fun _ => XS.aload S.here B.x rfl (B.d at_43) rfl rfl) ?_
  show Goes _ _ _ _ T (mkF me_ 45 #[.val (.int p0), .val (.int p1), .val (.int p2), .val (.int p3), .val (.int v1), .val (.int v2), .val (.int v3), .val (.int v4), .val (.ref b5), .val (.int (1 : Int32)), .unset, .unset, .unset] [(.ref b5)])
  refine Goes.go (fun _ => XS.iconst S.here B.x rfl (B.d at_45)) ?_
  show Goes _ _ _ _ T (mkF me_ 46 #[.val (.int p0), .val (.int p1), .val (.int p2), .val (.int p3), .val (.int v1), .val (.int v2), .val (.int v3), .val (.int v4), .val (.ref b5), .val (.int (1 : Int32)), .unset, .unset, .unset] [(.int (0 : Int32)), (.ref b5)])
  refine Goes.go (fun _ => XS.iload S.here B.x rfl (B.d at_46) rfl) ?_
  show Goes _ _ _ _ T (mkF me_ 48 #[.val (.int p0), .val (.int p1), .val (.int p2), .val (.int p3), .val (.int v1), .val (.int v2), .val (.int v3), .val (.int v4), .val (.ref b5), .val (.int (1 : Int32)), .unset, .unset, .unset] [(.int v2), (.int (0 : Int32)), (.ref b5)])
  refine Goes.iastore S B A_b5 (by decide) (by decide) g_b5 at_48 ?_
  intro T h S W A_b5
  replace A_b5 : Ary Z h b5 .int 3 (aup (fun _ => (.int 0)) 0 (.int v2)) := A_b5
  show Goes _ _ _ _ T (mkF me_ 49 #[.val (.int p0), .val (.int p1), .val (.int p2), .val (.int p3), .val (.int v1), .val (.int v2), .val (.int v3), .val (.int v4), .val (.ref b5), .val (.int (1 : Int32)), .unset, .unset, .unset] [])
  refine Goes.go (fun _ => XS.iload S.here B.x rfl (B.d at_49) rfl) ?_
  show Goes _ _ _ _ T (mkF me_ 51 #[.val (.int p0), .val (.int p1), .val (.int p2), .val (.int p3), .val (.int v1), .val (.int v2), .val (.int v3), .val (.int v4), .val (.ref b5), .val (.int (1 : Int32)), .unset, .unset, .unset] [(.int v3)])
  refine Goes.go (fun _ => XS.iload S.here B.x rfl (B.d at_51) rfl) ?_
  show Goes _ _ _ _ T (mkF me_ 53 #[.val (.int p0), .val (.int p1), .val (.int p2), .val (.int p3), .val (.int v1), .val (.int v2), .val (.int v3), .val (.int v4), .val (.ref b5), .val (.int (1 : Int32)), .unset, .unset, .unset] [(.int v2), (.int v3)])
  by_cases hc53 : v3 = v2
  · skip
    refine Goes.go (fun _ => XS.icmpYes S.here B.x rfl (pc0 := 53) (pc' := 69) rfl (B.d at_53) rfl (teq hc53).1 (by decide) (by decide)) ?_
    show Goes _ _ _ _ T (mkF me_ 69 #[.val (.int p0), .val (.int p1), .val (.int p2), .val (.int p3), .val (.int v1), .val (.int v2), .val (.int v3), .val (.int v4), .val (.ref b5), .val (.int (1 : Int32)), .unset, .unset, .unset] [])
    refine Goes.go (fun _ => XS.iload S.here B.x rfl (B.d at_69) rfl) ?_
    show Goes _ _ _ _ T (mkF me_ 71 #[.val (.int p0), .val (.int p1), .val (.int p2), .val (.int p3), .val (.int v1), .val (.int v2), .val (.int v3), .val (.int v4), .val (.ref b5), .val (.int (1 : Int32)), .unset, .unset, .unset] [(.int v4)])
    refine Goes.go (fun _ => XS.iload S.here B.x rfl (B.d at_71) rfl) ?_
    show Goes _ _ _ _ T (mkF me_ 73 #[.val (.int p0), .val (.int p1), .val (.int p2), .val (.int p3), .val (.int v1), .val (.int v2), .val (.int v3), .val (.int v4), .val (.ref b5), .val (.int (1 : Int32)), .unset, .unset, .unset] [(.int v2), (.int v4)])
    by_cases hc73 : v4 = v2
    · skip
      refine Goes.go (fun _ => XS.icmpYes S.here B.x rfl (pc0 := 73) (pc' := 96) rfl (B.d at_73) rfl (teq hc73).1 (by decide) (by decide)) ?_
      show Goes _ _ _ _ T (mkF me_ 96 #[.val (.int p0), .val (.int p1), .val (.int p2), .val (.int p3), .val (.int v1), .val (.int v2), .val (.int v3), .val (.int v4), .val (.ref b5), .val (.int (1 : Int32)), .unset, .unset, .unset] [])
      refine Goes.newO S B (w2 hw) (w3 hw) (w4 hw) at_96 (by decide) (by decide) ?_
      intro T h b6 S X zb g_b6 E_b6 D
      have ne_b5__b6 : b5 ≠ b6 := Nat.ne_of_lt (Nat.lt_of_lt_of_le A_b5.lt (Nat.le_of_eq zb.symm))
      replace A_b5 := A_b5.ext X
      have F_b6_items : Fld Z h b6 "com/example/holdfast/holdfast/IndexStack" "items" "[I" .null := D (Or.inr (w12 hw)) (ty := (.array .int)) (by decide)
      have F_b6_held : Fld Z h b6 "com/example/holdfast/holdfast/IndexStack" "held" "[Z" .null := D (Or.inr (w15 hw)) (ty := (.array .boolean)) (by decide)
      have F_b6_count : Fld Z h b6 "com/example/holdfast/holdfast/IndexStack" "count" "I" (.int (0 : Int32)) := D (Or.inl (w22 hw)) (ty := .int) (by decide)
      show Goes _ _ _ _ T (mkF me_ 99 #[.val (.int p0), .val (.int p1), .val (.int p2), .val (.int p3), .val (.int v1), .val (.int v2), .val (.int v3), .val (.int v4), .val (.ref b5), .val (.int (1 : Int32)), .unset, .unset, .unset] [(.ref b6)])
      refine Goes.go (fun _ => XS.dup S.here B.x rfl (B.d at_99) rfl rfl) ?_
      show Goes _ _ _ _ T (mkF me_ 100 #[.val (.int p0), .val (.int p1), .val (.int p2), .val (.int p3), .val (.int v1), .val (.int v2), .val (.int v3), .val (.int v4), .val (.ref b5), .val (.int (1 : Int32)), .unset, .unset, .unset] [(.ref b6), (.ref b6)])
      refine Goes.go (fun _ => XS.iload S.here B.x rfl (B.d at_100) rfl) ?_
      show Goes _ _ _ _ T (mkF me_ 102 #[.val (.int p0), .val (.int p1), .val (.int p2), .val (.int p3), .val (.int v1), .val (.int v2), .val (.int v3), .val (.int v4), .val (.ref b5), .val (.int (1 : Int32)), .unset, .unset, .unset] [(.int v1), (.ref b6), (.ref b6)])
      have zle := S.le
      refine Goes.callI (argsL := [(.int v1)]) (rest := [(.ref b6)]) (W := 1) S B (rmI l Z aw hw b6 v1 _ n0 E_b6 F_b6_items F_b6_held F_b6_count g_b6 (own_bd hv1).1 (own_bd hv1).2) (w5 hw) (w6 hw) (w4 hw) (w7 hw) (by decide) rfl (by decide) (by decide) (by decide) (by decide) rfl (lenOf pd_0 rfl) rfl (Nat.le_of_eq rfl) at_102 ?_
      intro v T h S hQ
      obtain ⟨b7, b8, rfl, zb_b7, zb_b8, ne_b7__b8, Kc, E_b6', F_b6_items', F_b6_held', F_b6_count', A_b7', A_b8'⟩ := hQ
      have ne_b5__b7 : b5 ≠ b7 := Nat.ne_of_lt (Nat.lt_of_lt_of_le A_b5.lt zb_b7)
      have ne_b6__b7 : b6 ≠ b7 := Nat.ne_of_lt (Nat.lt_of_lt_of_le E_b6.lt zb_b7)
      have g_b7 : n0 ≤ b7 := Nat.le_trans zle zb_b7
      have ne_b5__b8 : b5 ≠ b8 := Nat.ne_of_lt (Nat.lt_of_lt_of_le A_b5.lt zb_b8)
      have ne_b6__b8 : b6 ≠ b8 := Nat.ne_of_lt (Nat.lt_of_lt_of_le E_b6.lt zb_b8)
      have g_b8 : n0 ≤ b8 := Nat.le_trans zle zb_b8
      replace A_b5 := A_b5.keep Kc (ninS ne_b5__b6 nin0)
      replace E_b6 := E_b6'
      replace F_b6_items := F_b6_items'
      replace F_b6_held := F_b6_held'
      replace F_b6_count := F_b6_count'
      have A_b7 := A_b7'
      have A_b8 := A_b8'
      show Goes _ _ _ _ T (mkF me_ 105 #[.val (.int p0), .val (.int p1), .val (.int p2), .val (.int p3), .val (.int v1), .val (.int v2), .val (.int v3), .val (.int v4), .val (.ref b5), .val (.int (1 : Int32)), .unset, .unset, .unset] [(.ref b6)])
      refine Goes.go (fun _ => XS.astore S.here B.x rfl (B.d at_105) rfl rfl (l' := #[.val (.int p0), .val (.int p1), .val (.int p2), .val (.int p3), .val (.int v1), .val (.int v2), .val (.int v3), .val (.int v4), .val (.ref b5), .val (.int (1 : Int32)), .val (.ref b6), .unset, .unset]) rfl) ?_
      show Goes _ _ _ _ T (mkF me_ 107 #[.val (.int p0), .val (.int p1), .val (.int p2), .val (.int p3), .val (.int v1), .val (.int v2), .val (.int v3), .val (.int v4), .val (.ref b5), .val (.int (1 : Int32)), .val (.ref b6), .unset, .unset] [])
      have hS : own_St v1.toNatClampNeg (fun _ => 0) (fun _ => 0) (0 : Int32) [] := own_St0
      refine Goes.go (fun _ => XS.aload S.here B.x rfl (B.d at_107) rfl rfl) ?_
      show Goes _ _ _ _ T (mkF me_ 109 #[.val (.int p0), .val (.int p1), .val (.int p2), .val (.int p3), .val (.int v1), .val (.int v2), .val (.int v3), .val (.int v4), .val (.ref b5), .val (.int (1 : Int32)), .val (.ref b6), .unset, .unset] [(.ref b6)])
      refine Goes.go (fun _ => XS.iload S.here B.x rfl (B.d at_109) rfl) ?_
      show Goes _ _ _ _ T (mkF me_ 111 #[.val (.int p0), .val (.int p1), .val (.int p2), .val (.int p3), .val (.int v1), .val (.int v2), .val (.int v3), .val (.int v4), .val (.ref b5), .val (.int (1 : Int32)), .val (.ref b6), .unset, .unset] [(.int v2), (.ref b6)])
      refine Goes.callV (argsL := [(.int v2)]) (rest := []) (W := 0) S B (rm_add l Z aw hw b6 v2 b7 b8 v1.toNatClampNeg (fun _ => 0) (fun _ => 0) (0 : Int32) _ n0 E_b6 F_b6_items F_b6_held F_b6_count A_b7 A_b8 g_b6 g_b7 g_b8 ne_b6__b7 ne_b6__b8 ne_b7__b8 rv2.1 rv2.2 (own_cn hS) (fun q => own_cl hS (own_cap0 hS rv2.1 rv2.2 (own_hz hS rv2.1 rv2.2 q)))) E_b6 (w16 hw) (w17 hw) (w19 hw) (w18 hw) (w4 hw) (w20 hw) (by decide) (by decide) (by decide) (by decide) (by decide) rfl (lenOf pd_0 rfl) rfl (Nat.le_of_eq rfl) at_111 ?_
      intro v T h S hQ
      obtain ⟨u9, u10, u11, rfl, Kc, E_b6', F_b6_items', F_b6_held', F_b6_count', A_b7', A_b8', hr_111⟩ := hQ
      replace A_b5 := A_b5.keep Kc (ninS ne_b5__b6 (ninS ne_b5__b7 (ninS ne_b5__b8 nin0)))
      replace E_b6 := E_b6'
      replace F_b6_items := F_b6_items'
      replace F_b6_held := F_b6_held'
      replace F_b6_count := F_b6_count'
      replace A_b7 := A_b7'
      replace A_b8 := A_b8'
      show Goes _ _ _ _ T (mkF me_ 114 #[.val (.int p0), .val (.int p1), .val (.int p2), .val (.int p3), .val (.int v1), .val (.int v2), .val (.int v3), .val (.int v4), .val (.ref b5), .val (.int (1 : Int32)), .val (.ref b6), .unset, .unset] [])
      replace hS := own_addN hS hr_111 rv2.1 rv2.2 (by simp) (own_cap0 hS rv2.1 rv2.2 (by simp)) (by simp)
      simp only [List.nil_append, List.cons_append] at hS
      refine Goes.go (fun _ => XS.aload S.here B.x rfl (B.d at_114) rfl rfl) ?_
      show Goes _ _ _ _ T (mkF me_ 116 #[.val (.int p0), .val (.int p1), .val (.int p2), .val (.int p3), .val (.int v1), .val (.int v2), .val (.int v3), .val (.int v4), .val (.ref b5), .val (.int (1 : Int32)), .val (.ref b6), .unset, .unset] [(.ref b6)])
      refine Goes.go (fun _ => XS.iload S.here B.x rfl (B.d at_116) rfl) ?_
      show Goes _ _ _ _ T (mkF me_ 118 #[.val (.int p0), .val (.int p1), .val (.int p2), .val (.int p3), .val (.int v1), .val (.int v2), .val (.int v3), .val (.int v4), .val (.ref b5), .val (.int (1 : Int32)), .val (.ref b6), .unset, .unset] [(.int v3), (.ref b6)])
      refine Goes.callV (argsL := [(.int v3)]) (rest := []) (W := 0) S B (rm_add l Z aw hw b6 v3 b7 b8 v1.toNatClampNeg u9 u10 u11 _ n0 E_b6 F_b6_items F_b6_held F_b6_count A_b7 A_b8 g_b6 g_b7 g_b8 ne_b6__b7 ne_b6__b8 ne_b7__b8 rv3.1 rv3.2 (own_cn hS) (fun q => own_cl hS (own_cap1 hS rv3.1 rv3.2 (own_hz hS rv3.1 rv3.2 q)))) E_b6 (w16 hw) (w17 hw) (w19 hw) (w18 hw) (w4 hw) (w20 hw) (by decide) (by decide) (by decide) (by decide) (by decide) rfl (lenOf pd_0 rfl) rfl (Nat.le_of_eq rfl) at_118 ?_
      intro v T h S hQ
      obtain ⟨u12, u13, u14, rfl, Kc, E_b6', F_b6_items', F_b6_held', F_b6_count', A_b7', A_b8', hr_118⟩ := hQ
      replace A_b5 := A_b5.keep Kc (ninS ne_b5__b6 (ninS ne_b5__b7 (ninS ne_b5__b8 nin0)))
      replace E_b6 := E_b6'
      replace F_b6_items := F_b6_items'
      replace F_b6_held := F_b6_held'
      replace F_b6_count := F_b6_count'
      replace A_b7 := A_b7'
      replace A_b8 := A_b8'
      show Goes _ _ _ _ T (mkF me_ 121 #[.val (.int p0), .val (.int p1), .val (.int p2), .val (.int p3), .val (.int v1), .val (.int v2), .val (.int v3), .val (.int v4), .val (.ref b5), .val (.int (1 : Int32)), .val (.ref b6), .unset, .unset] [])
      replace hS := own_addO hS hr_118 rv3.1 rv3.2 (by simp [hc53])
      refine Goes.go (fun _ => XS.aload S.here B.x rfl (B.d at_121) rfl rfl) ?_
      show Goes _ _ _ _ T (mkF me_ 123 #[.val (.int p0), .val (.int p1), .val (.int p2), .val (.int p3), .val (.int v1), .val (.int v2), .val (.int v3), .val (.int v4), .val (.ref b5), .val (.int (1 : Int32)), .val (.ref b6), .unset, .unset] [(.ref b6)])
      refine Goes.go (fun _ => XS.iload S.here B.x rfl (B.d at_123) rfl) ?_
      show Goes _ _ _ _ T (mkF me_ 125 #[.val (.int p0), .val (.int p1), .val (.int p2), .val (.int p3), .val (.int v1), .val (.int v2), .val (.int v3), .val (.int v4), .val (.ref b5), .val (.int (1 : Int32)), .val (.ref b6), .unset, .unset] [(.int v4), (.ref b6)])
      refine Goes.callV (argsL := [(.int v4)]) (rest := []) (W := 0) S B (rm_add l Z aw hw b6 v4 b7 b8 v1.toNatClampNeg u12 u13 u14 _ n0 E_b6 F_b6_items F_b6_held F_b6_count A_b7 A_b8 g_b6 g_b7 g_b8 ne_b6__b7 ne_b6__b8 ne_b7__b8 rv4.1 rv4.2 (own_cn hS) (fun q => own_cl hS (own_cap1 hS rv4.1 rv4.2 (own_hz hS rv4.1 rv4.2 q)))) E_b6 (w16 hw) (w17 hw) (w19 hw) (w18 hw) (w4 hw) (w20 hw) (by decide) (by decide) (by decide) (by decide) (by decide) rfl (lenOf pd_0 rfl) rfl (Nat.le_of_eq rfl) at_125 ?_
      intro v T h S hQ
      obtain ⟨u15, u16, u17, rfl, Kc, E_b6', F_b6_items', F_b6_held', F_b6_count', A_b7', A_b8', hr_125⟩ := hQ
      replace A_b5 := A_b5.keep Kc (ninS ne_b5__b6 (ninS ne_b5__b7 (ninS ne_b5__b8 nin0)))
      replace E_b6 := E_b6'
      replace F_b6_items := F_b6_items'
      replace F_b6_held := F_b6_held'
      replace F_b6_count := F_b6_count'
      replace A_b7 := A_b7'
      replace A_b8 := A_b8'
      show Goes _ _ _ _ T (mkF me_ 128 #[.val (.int p0), .val (.int p1), .val (.int p2), .val (.int p3), .val (.int v1), .val (.int v2), .val (.int v3), .val (.int v4), .val (.ref b5), .val (.int (1 : Int32)), .val (.ref b6), .unset, .unset] [])
      replace hS := own_addO hS hr_125 rv4.1 rv4.2 (by simp [hc73])
      refine Goes.go (fun _ => XS.aload S.here B.x rfl (B.d at_128) rfl rfl) ?_
      show Goes _ _ _ _ T (mkF me_ 130 #[.val (.int p0), .val (.int p1), .val (.int p2), .val (.int p3), .val (.int v1), .val (.int v2), .val (.int v3), .val (.int v4), .val (.ref b5), .val (.int (1 : Int32)), .val (.ref b6), .unset, .unset] [(.ref b6)])
      refine Goes.callV (argsL := []) (rest := []) (W := 0) S B (rm_take l Z aw hw b6 b7 b8 v1.toNatClampNeg u15 u16 u17 _ n0 E_b6 F_b6_items F_b6_held F_b6_count A_b7 A_b8 g_b6 g_b7 g_b8 ne_b6__b7 ne_b6__b8 ne_b7__b8 (own_tk (ys := []) (t := v2) hS).1 (own_tk (ys := []) (t := v2) hS).2.1 (own_tk (ys := []) (t := v2) hS).2.2.1 (own_tk (ys := []) (t := v2) hS).2.2.2) E_b6 (w23 hw) (w24 hw) (w26 hw) (w25 hw) (w4 hw) (w27 hw) (by decide) (by decide) (by decide) (by decide) (by decide) rfl (lenOf pd_1 rfl) rfl (Nat.le_of_eq rfl) at_130 ?_
      intro v T h S hQ
      obtain ⟨rfl, Kc, E_b6', F_b6_items', F_b6_held', F_b6_count', A_b7', A_b8'⟩ := hQ
      replace A_b5 := A_b5.keep Kc (ninS ne_b5__b6 (ninS ne_b5__b7 (ninS ne_b5__b8 nin0)))
      replace E_b6 := E_b6'
      replace F_b6_items := F_b6_items'
      replace F_b6_held := F_b6_held'
      replace F_b6_count := F_b6_count'
      replace A_b7 := A_b7'
      replace A_b8 := A_b8'
      show Goes _ _ _ _ T (mkF me_ 133 #[.val (.int p0), .val (.int p1), .val (.int p2), .val (.int p3), .val (.int v1), .val (.int v2), .val (.int v3), .val (.int v4), .val (.ref b5), .val (.int (1 : Int32)), .val (.ref b6), .unset, .unset] [(.int (u15 (u17 - (1 : Int32)).toNatClampNeg))])
      obtain ⟨ht, hS, htn⟩ := own_take (ys := []) (t := v2) hS
      rw [show (u15 (u17 - (1 : Int32)).toNatClampNeg) = v2 from ht]
      show Goes _ _ _ _ T (mkF me_ 133 #[.val (.int p0), .val (.int p1), .val (.int p2), .val (.int p3), .val (.int v1), .val (.int v2), .val (.int v3), .val (.int v4), .val (.ref b5), .val (.int (1 : Int32)), .val (.ref b6), .unset, .unset] [(.int v2)])
      refine Goes.go (fun _ => XS.istore S.here B.x rfl (B.d at_133) rfl (l' := #[.val (.int p0), .val (.int p1), .val (.int p2), .val (.int p3), .val (.int v1), .val (.int v2), .val (.int v3), .val (.int v4), .val (.ref b5), .val (.int (1 : Int32)), .val (.ref b6), .val (.int v2), .unset]) rfl) ?_
      show Goes _ _ _ _ T (mkF me_ 135 #[.val (.int p0), .val (.int p1), .val (.int p2), .val (.int p3), .val (.int v1), .val (.int v2), .val (.int v3), .val (.int v4), .val (.ref b5), .val (.int (1 : Int32)), .val (.ref b6), .val (.int v2), .unset] [])
      refine Goes.go (fun _ => XS.iload S.here B.x rfl (B.d at_135) rfl) ?_
      show Goes _ _ _ _ T (mkF me_ 137 #[.val (.int p0), .val (.int p1), .val (.int p2), .val (.int p3), .val (.int v1), .val (.int v2), .val (.int v3), .val (.int v4), .val (.ref b5), .val (.int (1 : Int32)), .val (.ref b6), .val (.int v2), .unset] [(.int v2)])
      refine Goes.go (fun _ => XS.aload S.here B.x rfl (B.d at_137) rfl rfl) ?_
      show Goes _ _ _ _ T (mkF me_ 139 #[.val (.int p0), .val (.int p1), .val (.int p2), .val (.int p3), .val (.int v1), .val (.int v2), .val (.int v3), .val (.int v4), .val (.ref b5), .val (.int (1 : Int32)), .val (.ref b6), .val (.int v2), .unset] [(.ref b5), (.int v2)])
      refine Goes.go (fun _ => XS.iload S.here B.x rfl (B.d at_139) rfl) ?_
      show Goes _ _ _ _ T (mkF me_ 141 #[.val (.int p0), .val (.int p1), .val (.int p2), .val (.int p3), .val (.int v1), .val (.int v2), .val (.int v3), .val (.int v4), .val (.ref b5), .val (.int (1 : Int32)), .val (.ref b6), .val (.int v2), .unset] [(.int (1 : Int32)), (.ref b5), (.int v2)])
      refine Goes.go (fun _ => XS.iconst S.here B.x rfl (B.d at_141)) ?_
      show Goes _ _ _ _ T (mkF me_ 142 #[.val (.int p0), .val (.int p1), .val (.int p2), .val (.int p3), .val (.int v1), .val (.int v2), .val (.int v3), .val (.int v4), .val (.ref b5), .val (.int (1 : Int32)), .val (.ref b6), .val (.int v2), .unset] [(.int (1 : Int32)), (.int (1 : Int32)), (.ref b5), (.int v2)])
      refine Goes.go (fun _ => XS.isub S.here B.x rfl (B.d at_142) rfl) ?_
      show Goes _ _ _ _ T (mkF me_ 143 #[.val (.int p0), .val (.int p1), .val (.int p2), .val (.int p3), .val (.int v1), .val (.int v2), .val (.int v3), .val (.int v4), .val (.ref b5), .val (.int (1 : Int32)), .val (.ref b6), .val (.int v2), .unset] [(.int (0 : Int32)), (.ref b5), (.int v2)])
      refine Goes.iaload S B A_b5 (by decide) (by decide) at_143 (v := (.int v2)) rfl ?_
      show Goes _ _ _ _ T (mkF me_ 144 #[.val (.int p0), .val (.int p1), .val (.int p2), .val (.int p3), .val (.int v1), .val (.int v2), .val (.int v3), .val (.int v4), .val (.ref b5), .val (.int (1 : Int32)), .val (.ref b6), .val (.int v2), .unset] [(.int v2), (.int v2)])
      refine Goes.go (fun _ => XS.icmpNo S.here B.x rfl (B.d at_144) rfl (teq (rfl : v2 = v2)).2) ?_
      show Goes _ _ _ _ T (mkF me_ 147 #[.val (.int p0), .val (.int p1), .val (.int p2), .val (.int p3), .val (.int v1), .val (.int v2), .val (.int v3), .val (.int v4), .val (.ref b5), .val (.int (1 : Int32)), .val (.ref b6), .val (.int v2), .unset] [])
      refine Goes.go (fun _ => XS.aload S.here B.x rfl (B.d at_147) rfl rfl) ?_
      show Goes _ _ _ _ T (mkF me_ 149 #[.val (.int p0), .val (.int p1), .val (.int p2), .val (.int p3), .val (.int v1), .val (.int v2), .val (.int v3), .val (.int v4), .val (.ref b5), .val (.int (1 : Int32)), .val (.ref b6), .val (.int v2), .unset] [(.ref b6)])
      refine Goes.callV (argsL := []) (rest := []) (W := 0) S B (rm_size l Z aw hw b6 (u17 - (1 : Int32)) _ n0 F_b6_count) E_b6 (w28 hw) (w29 hw) (w31 hw) (w30 hw) (w4 hw) (w32 hw) (by decide) (by decide) (by decide) (by decide) (by decide) rfl (lenOf pd_1 rfl) rfl (Nat.le_of_eq rfl) at_149 ?_
      intro v T h S hQ
      obtain ⟨rfl, hh⟩ := hQ
      replace hh := hh.symm
      subst hh
      show Goes _ _ _ _ T (mkF me_ 152 #[.val (.int p0), .val (.int p1), .val (.int p2), .val (.int p3), .val (.int v1), .val (.int v2), .val (.int v3), .val (.int v4), .val (.ref b5), .val (.int (1 : Int32)), .val (.ref b6), .val (.int v2), .unset] [(.int (u17 - (1 : Int32)))])
      refine Goes.go (fun _ => XS.iload S.here B.x rfl (B.d at_152) rfl) ?_
      show Goes _ _ _ _ T (mkF me_ 154 #[.val (.int p0), .val (.int p1), .val (.int p2), .val (.int p3), .val (.int v1), .val (.int v2), .val (.int v3), .val (.int v4), .val (.ref b5), .val (.int (1 : Int32)), .val (.ref b6), .val (.int v2), .unset] [(.int (1 : Int32)), (.int (u17 - (1 : Int32)))])
      refine Goes.go (fun _ => XS.iconst S.here B.x rfl (B.d at_154)) ?_
      show Goes _ _ _ _ T (mkF me_ 155 #[.val (.int p0), .val (.int p1), .val (.int p2), .val (.int p3), .val (.int v1), .val (.int v2), .val (.int v3), .val (.int v4), .val (.ref b5), .val (.int (1 : Int32)), .val (.ref b6), .val (.int v2), .unset] [(.int (1 : Int32)), (.int (1 : Int32)), (.int (u17 - (1 : Int32)))])
      refine Goes.go (fun _ => XS.isub S.here B.x rfl (B.d at_155) rfl) ?_
      show Goes _ _ _ _ T (mkF me_ 156 #[.val (.int p0), .val (.int p1), .val (.int p2), .val (.int p3), .val (.int v1), .val (.int v2), .val (.int v3), .val (.int v4), .val (.ref b5), .val (.int (1 : Int32)), .val (.ref b6), .val (.int v2), .unset] [(.int (0 : Int32)), (.int (u17 - (1 : Int32)))])
      refine Goes.go (fun _ => XS.icmpNo S.here B.x rfl (B.d at_156) rfl (teq (show (u17 - (1 : Int32)) = (0 : Int32) from own_len hS)).2) ?_
      show Goes _ _ _ _ T (mkF me_ 159 #[.val (.int p0), .val (.int p1), .val (.int p2), .val (.int p3), .val (.int v1), .val (.int v2), .val (.int v3), .val (.int v4), .val (.ref b5), .val (.int (1 : Int32)), .val (.ref b6), .val (.int v2), .unset] [])
      refine Goes.go (fun _ => XS.iconst S.here B.x rfl (B.d at_159)) ?_
      show Goes _ _ _ _ T (mkF me_ 160 #[.val (.int p0), .val (.int p1), .val (.int p2), .val (.int p3), .val (.int v1), .val (.int v2), .val (.int v3), .val (.int v4), .val (.ref b5), .val (.int (1 : Int32)), .val (.ref b6), .val (.int v2), .unset] [(.int (1 : Int32))])
      refine Goes.go (fun _ => XS.goto S.here B.x rfl (pc0 := 160) (pc' := 164) rfl (B.d at_160) (by decide) (by decide)) ?_
      show Goes _ _ _ _ T (mkF me_ 164 #[.val (.int p0), .val (.int p1), .val (.int p2), .val (.int p3), .val (.int v1), .val (.int v2), .val (.int v3), .val (.int v4), .val (.ref b5), .val (.int (1 : Int32)), .val (.ref b6), .val (.int v2), .unset] [(.int (1 : Int32))])
      refine Goes.go (fun _ => XS.istore S.here B.x rfl (B.d at_164) rfl (l' := #[.val (.int p0), .val (.int p1), .val (.int p2), .val (.int p3), .val (.int v1), .val (.int v2), .val (.int v3), .val (.int v4), .val (.ref b5), .val (.int (1 : Int32)), .val (.ref b6), .val (.int v2), .val (.int (1 : Int32))]) rfl) ?_
      show Goes _ _ _ _ T (mkF me_ 166 #[.val (.int p0), .val (.int p1), .val (.int p2), .val (.int p3), .val (.int v1), .val (.int v2), .val (.int v3), .val (.int v4), .val (.ref b5), .val (.int (1 : Int32)), .val (.ref b6), .val (.int v2), .val (.int (1 : Int32))] [])
      refine Goes.go (fun _ => XS.iload S.here B.x rfl (B.d at_166) rfl) ?_
      show Goes _ _ _ _ T (mkF me_ 168 #[.val (.int p0), .val (.int p1), .val (.int p2), .val (.int p3), .val (.int v1), .val (.int v2), .val (.int v3), .val (.int v4), .val (.ref b5), .val (.int (1 : Int32)), .val (.ref b6), .val (.int v2), .val (.int (1 : Int32))] [(.int (1 : Int32))])
      refine Goes.go (fun _ => XS.iconst S.here B.x rfl (B.d at_168)) ?_
      show Goes _ _ _ _ T (mkF me_ 169 #[.val (.int p0), .val (.int p1), .val (.int p2), .val (.int p3), .val (.int v1), .val (.int v2), .val (.int v3), .val (.int v4), .val (.ref b5), .val (.int (1 : Int32)), .val (.ref b6), .val (.int v2), .val (.int (1 : Int32))] [(.int (2 : Int32)), (.int (1 : Int32))])
      refine Goes.go (fun _ => XS.icmpYes S.here B.x rfl (pc0 := 169) (pc' := 197) rfl (B.d at_169) rfl (by decide) (by decide) (by decide)) ?_
      show Goes _ _ _ _ T (mkF me_ 197 #[.val (.int p0), .val (.int p1), .val (.int p2), .val (.int p3), .val (.int v1), .val (.int v2), .val (.int v3), .val (.int v4), .val (.ref b5), .val (.int (1 : Int32)), .val (.ref b6), .val (.int v2), .val (.int (1 : Int32))] [])
      refine Goes.go (fun _ => XS.iload S.here B.x rfl (B.d at_197) rfl) ?_
      show Goes _ _ _ _ T (mkF me_ 199 #[.val (.int p0), .val (.int p1), .val (.int p2), .val (.int p3), .val (.int v1), .val (.int v2), .val (.int v3), .val (.int v4), .val (.ref b5), .val (.int (1 : Int32)), .val (.ref b6), .val (.int v2), .val (.int (1 : Int32))] [(.int (1 : Int32))])
      refine Goes.go (fun _ => XS.iconst S.here B.x rfl (B.d at_199)) ?_
      show Goes _ _ _ _ T (mkF me_ 200 #[.val (.int p0), .val (.int p1), .val (.int p2), .val (.int p3), .val (.int v1), .val (.int v2), .val (.int v3), .val (.int v4), .val (.ref b5), .val (.int (1 : Int32)), .val (.ref b6), .val (.int v2), .val (.int (1 : Int32))] [(.int (3 : Int32)), (.int (1 : Int32))])
      refine Goes.go (fun _ => XS.icmpYes S.here B.x rfl (pc0 := 200) (pc' := 228) rfl (B.d at_200) rfl (by decide) (by decide) (by decide)) ?_
      show Goes _ _ _ _ T (mkF me_ 228 #[.val (.int p0), .val (.int p1), .val (.int p2), .val (.int p3), .val (.int v1), .val (.int v2), .val (.int v3), .val (.int v4), .val (.ref b5), .val (.int (1 : Int32)), .val (.ref b6), .val (.int v2), .val (.int (1 : Int32))] [])
      refine Goes.go (fun _ => XS.aload S.here B.x rfl (B.d at_228) rfl rfl) ?_
      show Goes _ _ _ _ T (mkF me_ 230 #[.val (.int p0), .val (.int p1), .val (.int p2), .val (.int p3), .val (.int v1), .val (.int v2), .val (.int v3), .val (.int v4), .val (.ref b5), .val (.int (1 : Int32)), .val (.ref b6), .val (.int v2), .val (.int (1 : Int32))] [(.ref b6)])
      refine Goes.go (fun _ => XS.iload S.here B.x rfl (B.d at_230) rfl) ?_
      show Goes _ _ _ _ T (mkF me_ 232 #[.val (.int p0), .val (.int p1), .val (.int p2), .val (.int p3), .val (.int v1), .val (.int v2), .val (.int v3), .val (.int v4), .val (.ref b5), .val (.int (1 : Int32)), .val (.ref b6), .val (.int v2), .val (.int (1 : Int32))] [(.int v2), (.ref b6)])
      refine Goes.callV (argsL := [(.int v2)]) (rest := []) (W := 0) S B (rm_add l Z aw hw b6 v2 b7 b8 v1.toNatClampNeg u15 (aup u16 (u15 (u17 - (1 : Int32)).toNatClampNeg).toNatClampNeg 0) (u17 - (1 : Int32)) _ n0 E_b6 F_b6_items F_b6_held F_b6_count A_b7 A_b8 g_b6 g_b7 g_b8 ne_b6__b7 ne_b6__b8 ne_b7__b8 rv2.1 rv2.2 (own_cn hS) (fun q => own_cl hS (own_cap0 hS rv2.1 rv2.2 (own_hz hS rv2.1 rv2.2 q)))) E_b6 (w16 hw) (w17 hw) (w19 hw) (w18 hw) (w4 hw) (w20 hw) (by decide) (by decide) (by decide) (by decide) (by decide) rfl (lenOf pd_0 rfl) rfl (Nat.le_of_eq rfl) at_232 ?_
      intro v T h S hQ
      obtain ⟨u18, u19, u20, rfl, Kc, E_b6', F_b6_items', F_b6_held', F_b6_count', A_b7', A_b8', hr_232⟩ := hQ
      replace A_b5 := A_b5.keep Kc (ninS ne_b5__b6 (ninS ne_b5__b7 (ninS ne_b5__b8 nin0)))
      replace E_b6 := E_b6'
      replace F_b6_items := F_b6_items'
      replace F_b6_held := F_b6_held'
      replace F_b6_count := F_b6_count'
      replace A_b7 := A_b7'
      replace A_b8 := A_b8'
      show Goes _ _ _ _ T (mkF me_ 235 #[.val (.int p0), .val (.int p1), .val (.int p2), .val (.int p3), .val (.int v1), .val (.int v2), .val (.int v3), .val (.int v4), .val (.ref b5), .val (.int (1 : Int32)), .val (.ref b6), .val (.int v2), .val (.int (1 : Int32))] [])
      replace hS := own_addN hS hr_232 rv2.1 rv2.2 htn (own_cap0 hS rv2.1 rv2.2 htn) (by simp)
      simp only [List.nil_append, List.cons_append] at hS
      refine Goes.go (fun _ => XS.iload S.here B.x rfl (B.d at_235) rfl) ?_
      show Goes _ _ _ _ T (mkF me_ 237 #[.val (.int p0), .val (.int p1), .val (.int p2), .val (.int p3), .val (.int v1), .val (.int v2), .val (.int v3), .val (.int v4), .val (.ref b5), .val (.int (1 : Int32)), .val (.ref b6), .val (.int v2), .val (.int (1 : Int32))] [(.int (1 : Int32))])
      refine Goes.go (fun _ => XS.ifNo S.here B.x rfl (B.d at_237) rfl (by decide)) ?_
      show Goes _ _ _ _ T (mkF me_ 240 #[.val (.int p0), .val (.int p1), .val (.int p2), .val (.int p3), .val (.int v1), .val (.int v2), .val (.int v3), .val (.int v4), .val (.ref b5), .val (.int (1 : Int32)), .val (.ref b6), .val (.int v2), .val (.int (1 : Int32))] [])
      refine Goes.go (fun _ => XS.aload S.here B.x rfl (B.d at_240) rfl rfl) ?_
      show Goes _ _ _ _ T (mkF me_ 242 #[.val (.int p0), .val (.int p1), .val (.int p2), .val (.int p3), .val (.int v1), .val (.int v2), .val (.int v3), .val (.int v4), .val (.ref b5), .val (.int (1 : Int32)), .val (.ref b6), .val (.int v2), .val (.int (1 : Int32))] [(.ref b6)])
      refine Goes.callV (argsL := []) (rest := []) (W := 0) S B (rm_size l Z aw hw b6 u20 _ n0 F_b6_count) E_b6 (w28 hw) (w29 hw) (w31 hw) (w30 hw) (w4 hw) (w32 hw) (by decide) (by decide) (by decide) (by decide) (by decide) rfl (lenOf pd_1 rfl) rfl (Nat.le_of_eq rfl) at_242 ?_
      intro v T h S hQ
      obtain ⟨rfl, hh⟩ := hQ
      replace hh := hh.symm
      subst hh
      show Goes _ _ _ _ T (mkF me_ 245 #[.val (.int p0), .val (.int p1), .val (.int p2), .val (.int p3), .val (.int v1), .val (.int v2), .val (.int v3), .val (.int v4), .val (.ref b5), .val (.int (1 : Int32)), .val (.ref b6), .val (.int v2), .val (.int (1 : Int32))] [(.int u20)])
      refine Goes.go (fun _ => XS.iload S.here B.x rfl (B.d at_245) rfl) ?_
      show Goes _ _ _ _ T (mkF me_ 247 #[.val (.int p0), .val (.int p1), .val (.int p2), .val (.int p3), .val (.int v1), .val (.int v2), .val (.int v3), .val (.int v4), .val (.ref b5), .val (.int (1 : Int32)), .val (.ref b6), .val (.int v2), .val (.int (1 : Int32))] [(.int (1 : Int32)), (.int u20)])
      refine Goes.go (fun _ => XS.icmpNo S.here B.x rfl (B.d at_247) rfl (teq (show u20 = (1 : Int32) from own_len hS)).2) ?_
      show Goes _ _ _ _ T (mkF me_ 250 #[.val (.int p0), .val (.int p1), .val (.int p2), .val (.int p3), .val (.int v1), .val (.int v2), .val (.int v3), .val (.int v4), .val (.ref b5), .val (.int (1 : Int32)), .val (.ref b6), .val (.int v2), .val (.int (1 : Int32))] [])
      refine Goes.go (fun _ => XS.aload S.here B.x rfl (B.d at_250) rfl rfl) ?_
      show Goes _ _ _ _ T (mkF me_ 252 #[.val (.int p0), .val (.int p1), .val (.int p2), .val (.int p3), .val (.int v1), .val (.int v2), .val (.int v3), .val (.int v4), .val (.ref b5), .val (.int (1 : Int32)), .val (.ref b6), .val (.int v2), .val (.int (1 : Int32))] [(.ref b6)])
      refine Goes.go (fun _ => XS.iload S.here B.x rfl (B.d at_252) rfl) ?_
      show Goes _ _ _ _ T (mkF me_ 254 #[.val (.int p0), .val (.int p1), .val (.int p2), .val (.int p3), .val (.int v1), .val (.int v2), .val (.int v3), .val (.int v4), .val (.ref b5), .val (.int (1 : Int32)), .val (.ref b6), .val (.int v2), .val (.int (1 : Int32))] [(.int (1 : Int32)), (.ref b6)])
      refine Goes.go (fun _ => XS.iconst S.here B.x rfl (B.d at_254)) ?_
      show Goes _ _ _ _ T (mkF me_ 255 #[.val (.int p0), .val (.int p1), .val (.int p2), .val (.int p3), .val (.int v1), .val (.int v2), .val (.int v3), .val (.int v4), .val (.ref b5), .val (.int (1 : Int32)), .val (.ref b6), .val (.int v2), .val (.int (1 : Int32))] [(.int (1 : Int32)), (.int (1 : Int32)), (.ref b6)])
      refine Goes.go (fun _ => XS.isub S.here B.x rfl (B.d at_255) rfl) ?_
      show Goes _ _ _ _ T (mkF me_ 256 #[.val (.int p0), .val (.int p1), .val (.int p2), .val (.int p3), .val (.int v1), .val (.int v2), .val (.int v3), .val (.int v4), .val (.ref b5), .val (.int (1 : Int32)), .val (.ref b6), .val (.int v2), .val (.int (1 : Int32))] [(.int (0 : Int32)), (.ref b6)])
      refine Goes.callV (argsL := [(.int (0 : Int32))]) (rest := []) (W := 0) S B (rm_get l Z aw hw b6 (0 : Int32) b7 v1.toNatClampNeg u18 _ n0 F_b6_items A_b7 (by decide) (own_ix hS 0 (by decide) (by simp))) E_b6 (w33 hw) (w34 hw) (w36 hw) (w35 hw) (w4 hw) (w37 hw) (by decide) (by decide) (by decide) (by decide) (by decide) rfl (lenOf pd_2 rfl) rfl (Nat.le_of_eq rfl) at_256 ?_
      intro v T h S hQ
      obtain ⟨rfl, hh⟩ := hQ
      replace hh := hh.symm
      subst hh
      show Goes _ _ _ _ T (mkF me_ 259 #[.val (.int p0), .val (.int p1), .val (.int p2), .val (.int p3), .val (.int v1), .val (.int v2), .val (.int v3), .val (.int v4), .val (.ref b5), .val (.int (1 : Int32)), .val (.ref b6), .val (.int v2), .val (.int (1 : Int32))] [(.int (u18 (0 : Int32).toNatClampNeg))])
      refine Goes.go (fun _ => XS.iload S.here B.x rfl (B.d at_259) rfl) ?_
      show Goes _ _ _ _ T (mkF me_ 261 #[.val (.int p0), .val (.int p1), .val (.int p2), .val (.int p3), .val (.int v1), .val (.int v2), .val (.int v3), .val (.int v4), .val (.ref b5), .val (.int (1 : Int32)), .val (.ref b6), .val (.int v2), .val (.int (1 : Int32))] [(.int v2), (.int (u18 (0 : Int32).toNatClampNeg))])
      refine Goes.go (fun _ => XS.icmpNo S.here B.x rfl (B.d at_261) rfl (teq (show (u18 (0 : Int32).toNatClampNeg) = v2 from own_get hS 0 rfl)).2) ?_
      show Goes _ _ _ _ T (mkF me_ 264 #[.val (.int p0), .val (.int p1), .val (.int p2), .val (.int p3), .val (.int v1), .val (.int v2), .val (.int v3), .val (.int v4), .val (.ref b5), .val (.int (1 : Int32)), .val (.ref b6), .val (.int v2), .val (.int (1 : Int32))] [])
      refine Goes.go (fun _ => XS.iconst S.here B.x rfl (B.d at_264)) ?_
      show Goes _ _ _ _ T (mkF me_ 265 #[.val (.int p0), .val (.int p1), .val (.int p2), .val (.int p3), .val (.int v1), .val (.int v2), .val (.int v3), .val (.int v4), .val (.ref b5), .val (.int (1 : Int32)), .val (.ref b6), .val (.int v2), .val (.int (1 : Int32))] [(.int (1 : Int32))])
      refine Goes.go (fun _ => XS.goto S.here B.x rfl (pc0 := 265) (pc' := 269) rfl (B.d at_265) (by decide) (by decide)) ?_
      show Goes _ _ _ _ T (mkF me_ 269 #[.val (.int p0), .val (.int p1), .val (.int p2), .val (.int p3), .val (.int v1), .val (.int v2), .val (.int v3), .val (.int v4), .val (.ref b5), .val (.int (1 : Int32)), .val (.ref b6), .val (.int v2), .val (.int (1 : Int32))] [(.int (1 : Int32))])
      refine Goes.go (fun _ => XS.istore S.here B.x rfl (B.d at_269) rfl (l' := #[.val (.int p0), .val (.int p1), .val (.int p2), .val (.int p3), .val (.int v1), .val (.int v2), .val (.int v3), .val (.int v4), .val (.ref b5), .val (.int (1 : Int32)), .val (.ref b6), .val (.int v2), .val (.int (1 : Int32))]) rfl) ?_
      show Goes _ _ _ _ T (mkF me_ 271 #[.val (.int p0), .val (.int p1), .val (.int p2), .val (.int p3), .val (.int v1), .val (.int v2), .val (.int v3), .val (.int v4), .val (.ref b5), .val (.int (1 : Int32)), .val (.ref b6), .val (.int v2), .val (.int (1 : Int32))] [])
      refine Goes.go (fun _ => XS.iload S.here B.x rfl (B.d at_271) rfl) ?_
      show Goes _ _ _ _ T (mkF me_ 273 #[.val (.int p0), .val (.int p1), .val (.int p2), .val (.int p3), .val (.int v1), .val (.int v2), .val (.int v3), .val (.int v4), .val (.ref b5), .val (.int (1 : Int32)), .val (.ref b6), .val (.int v2), .val (.int (1 : Int32))] [(.int (1 : Int32))])
      refine Goes.retN S B (by simp) at_273 (by decide) (by decide) ?_
      exact rfl
    · skip
      refine Goes.go (fun _ => XS.icmpNo S.here B.x rfl (B.d at_73) rfl (feq hc73).1) ?_
      show Goes _ _ _ _ T (mkF me_ 76 #[.val (.int p0), .val (.int p1), .val (.int p2), .val (.int p3), .val (.int v1), .val (.int v2), .val (.int v3), .val (.int v4), .val (.ref b5), .val (.int (1 : Int32)), .unset, .unset, .unset] [])
      refine Goes.go (fun _ => XS.iload S.here B.x rfl (B.d at_76) rfl) ?_
      show Goes _ _ _ _ T (mkF me_ 78 #[.val (.int p0), .val (.int p1), .val (.int p2), .val (.int p3), .val (.int v1), .val (.int v2), .val (.int v3), .val (.int v4), .val (.ref b5), .val (.int (1 : Int32)), .unset, .unset, .unset] [(.int v4)])
      refine Goes.go (fun _ => XS.iload S.here B.x rfl (B.d at_78) rfl) ?_
      show Goes _ _ _ _ T (mkF me_ 80 #[.val (.int p0), .val (.int p1), .val (.int p2), .val (.int p3), .val (.int v1), .val (.int v2), .val (.int v3), .val (.int v4), .val (.ref b5), .val (.int (1 : Int32)), .unset, .unset, .unset] [(.int v3), (.int v4)])
      by_cases hc80 : v4 = v3
      · skip
        exact absurd (hc80.trans hc53) hc73
      · skip
        refine Goes.go (fun _ => XS.icmpNo S.here B.x rfl (B.d at_80) rfl (feq hc80).1) ?_
        show Goes _ _ _ _ T (mkF me_ 83 #[.val (.int p0), .val (.int p1), .val (.int p2), .val (.int p3), .val (.int v1), .val (.int v2), .val (.int v3), .val (.int v4), .val (.ref b5), .val (.int (1 : Int32)), .unset, .unset, .unset] [])
        refine Goes.go (fun _ => XS.aload S.here B.x rfl (B.d at_83) rfl rfl) ?_
        show Goes _ _ _ _ T (mkF me_ 85 #[.val (.int p0), .val (.int p1), .val (.int p2), .val (.int p3), .val (.int v1), .val (.int v2), .val (.int v3), .val (.int v4), .val (.ref b5), .val (.int (1 : Int32)), .unset, .unset, .unset] [(.ref b5)])
        refine Goes.go (fun _ => XS.iload S.here B.x rfl (B.d at_85) rfl) ?_
        show Goes _ _ _ _ T (mkF me_ 87 #[.val (.int p0), .val (.int p1), .val (.int p2), .val (.int p3), .val (.int v1), .val (.int v2), .val (.int v3), .val (.int v4), .val (.ref b5), .val (.int (1 : Int32)), .unset, .unset, .unset] [(.int (1 : Int32)), (.ref b5)])
        refine Goes.go (fun _ => XS.iload S.here B.x rfl (B.d at_87) rfl) ?_
        show Goes _ _ _ _ T (mkF me_ 89 #[.val (.int p0), .val (.int p1), .val (.int p2), .val (.int p3), .val (.int v1), .val (.int v2), .val (.int v3), .val (.int v4), .val (.ref b5), .val (.int (1 : Int32)), .unset, .unset, .unset] [(.int v4), (.int (1 : Int32)), (.ref b5)])
        refine Goes.iastore S B A_b5 (by decide) (by decide) g_b5 at_89 ?_
        intro T h S W A_b5
        replace A_b5 : Ary Z h b5 .int 3 (aup (aup (fun _ => (.int 0)) 0 (.int v2)) 1 (.int v4)) := A_b5
        show Goes _ _ _ _ T (mkF me_ 90 #[.val (.int p0), .val (.int p1), .val (.int p2), .val (.int p3), .val (.int v1), .val (.int v2), .val (.int v3), .val (.int v4), .val (.ref b5), .val (.int (1 : Int32)), .unset, .unset, .unset] [])
        refine Goes.go (fun _ => XS.iload S.here B.x rfl (B.d at_90) rfl) ?_
        show Goes _ _ _ _ T (mkF me_ 92 #[.val (.int p0), .val (.int p1), .val (.int p2), .val (.int p3), .val (.int v1), .val (.int v2), .val (.int v3), .val (.int v4), .val (.ref b5), .val (.int (1 : Int32)), .unset, .unset, .unset] [(.int (1 : Int32))])
        refine Goes.go (fun _ => XS.iconst S.here B.x rfl (B.d at_92)) ?_
        show Goes _ _ _ _ T (mkF me_ 93 #[.val (.int p0), .val (.int p1), .val (.int p2), .val (.int p3), .val (.int v1), .val (.int v2), .val (.int v3), .val (.int v4), .val (.ref b5), .val (.int (1 : Int32)), .unset, .unset, .unset] [(.int (1 : Int32)), (.int (1 : Int32))])
        refine Goes.go (fun _ => XS.iadd S.here B.x rfl (B.d at_93) rfl) ?_
        show Goes _ _ _ _ T (mkF me_ 94 #[.val (.int p0), .val (.int p1), .val (.int p2), .val (.int p3), .val (.int v1), .val (.int v2), .val (.int v3), .val (.int v4), .val (.ref b5), .val (.int (1 : Int32)), .unset, .unset, .unset] [(.int (2 : Int32))])
        refine Goes.go (fun _ => XS.istore S.here B.x rfl (B.d at_94) rfl (l' := #[.val (.int p0), .val (.int p1), .val (.int p2), .val (.int p3), .val (.int v1), .val (.int v2), .val (.int v3), .val (.int v4), .val (.ref b5), .val (.int (2 : Int32)), .unset, .unset, .unset]) rfl) ?_
        show Goes _ _ _ _ T (mkF me_ 96 #[.val (.int p0), .val (.int p1), .val (.int p2), .val (.int p3), .val (.int v1), .val (.int v2), .val (.int v3), .val (.int v4), .val (.ref b5), .val (.int (2 : Int32)), .unset, .unset, .unset] [])
        refine Goes.newO S B (w2 hw) (w3 hw) (w4 hw) at_96 (by decide) (by decide) ?_
        intro T h b21 S X zb g_b21 E_b21 D
        have ne_b5__b21 : b5 ≠ b21 := Nat.ne_of_lt (Nat.lt_of_lt_of_le A_b5.lt (Nat.le_of_eq zb.symm))
        replace A_b5 := A_b5.ext X
        have F_b21_items : Fld Z h b21 "com/example/holdfast/holdfast/IndexStack" "items" "[I" .null := D (Or.inr (w12 hw)) (ty := (.array .int)) (by decide)
        have F_b21_held : Fld Z h b21 "com/example/holdfast/holdfast/IndexStack" "held" "[Z" .null := D (Or.inr (w15 hw)) (ty := (.array .boolean)) (by decide)
        have F_b21_count : Fld Z h b21 "com/example/holdfast/holdfast/IndexStack" "count" "I" (.int (0 : Int32)) := D (Or.inl (w22 hw)) (ty := .int) (by decide)
        show Goes _ _ _ _ T (mkF me_ 99 #[.val (.int p0), .val (.int p1), .val (.int p2), .val (.int p3), .val (.int v1), .val (.int v2), .val (.int v3), .val (.int v4), .val (.ref b5), .val (.int (2 : Int32)), .unset, .unset, .unset] [(.ref b21)])
        refine Goes.go (fun _ => XS.dup S.here B.x rfl (B.d at_99) rfl rfl) ?_
        show Goes _ _ _ _ T (mkF me_ 100 #[.val (.int p0), .val (.int p1), .val (.int p2), .val (.int p3), .val (.int v1), .val (.int v2), .val (.int v3), .val (.int v4), .val (.ref b5), .val (.int (2 : Int32)), .unset, .unset, .unset] [(.ref b21), (.ref b21)])
        refine Goes.go (fun _ => XS.iload S.here B.x rfl (B.d at_100) rfl) ?_
        show Goes _ _ _ _ T (mkF me_ 102 #[.val (.int p0), .val (.int p1), .val (.int p2), .val (.int p3), .val (.int v1), .val (.int v2), .val (.int v3), .val (.int v4), .val (.ref b5), .val (.int (2 : Int32)), .unset, .unset, .unset] [(.int v1), (.ref b21), (.ref b21)])
        have zle := S.le
        refine Goes.callI (argsL := [(.int v1)]) (rest := [(.ref b21)]) (W := 1) S B (rmI l Z aw hw b21 v1 _ n0 E_b21 F_b21_items F_b21_held F_b21_count g_b21 (own_bd hv1).1 (own_bd hv1).2) (w5 hw) (w6 hw) (w4 hw) (w7 hw) (by decide) rfl (by decide) (by decide) (by decide) (by decide) rfl (lenOf pd_0 rfl) rfl (Nat.le_of_eq rfl) at_102 ?_
        intro v T h S hQ
        obtain ⟨b22, b23, rfl, zb_b22, zb_b23, ne_b22__b23, Kc, E_b21', F_b21_items', F_b21_held', F_b21_count', A_b22', A_b23'⟩ := hQ
        have ne_b5__b22 : b5 ≠ b22 := Nat.ne_of_lt (Nat.lt_of_lt_of_le A_b5.lt zb_b22)
        have ne_b21__b22 : b21 ≠ b22 := Nat.ne_of_lt (Nat.lt_of_lt_of_le E_b21.lt zb_b22)
        have g_b22 : n0 ≤ b22 := Nat.le_trans zle zb_b22
        have ne_b5__b23 : b5 ≠ b23 := Nat.ne_of_lt (Nat.lt_of_lt_of_le A_b5.lt zb_b23)
        have ne_b21__b23 : b21 ≠ b23 := Nat.ne_of_lt (Nat.lt_of_lt_of_le E_b21.lt zb_b23)
        have g_b23 : n0 ≤ b23 := Nat.le_trans zle zb_b23
        replace A_b5 := A_b5.keep Kc (ninS ne_b5__b21 nin0)
        replace E_b21 := E_b21'
        replace F_b21_items := F_b21_items'
        replace F_b21_held := F_b21_held'
        replace F_b21_count := F_b21_count'
        have A_b22 := A_b22'
        have A_b23 := A_b23'
        show Goes _ _ _ _ T (mkF me_ 105 #[.val (.int p0), .val (.int p1), .val (.int p2), .val (.int p3), .val (.int v1), .val (.int v2), .val (.int v3), .val (.int v4), .val (.ref b5), .val (.int (2 : Int32)), .unset, .unset, .unset] [(.ref b21)])
        refine Goes.go (fun _ => XS.astore S.here B.x rfl (B.d at_105) rfl rfl (l' := #[.val (.int p0), .val (.int p1), .val (.int p2), .val (.int p3), .val (.int v1), .val (.int v2), .val (.int v3), .val (.int v4), .val (.ref b5), .val (.int (2 : Int32)), .val (.ref b21), .unset, .unset]) rfl) ?_
        show Goes _ _ _ _ T (mkF me_ 107 #[.val (.int p0), .val (.int p1), .val (.int p2), .val (.int p3), .val (.int v1), .val (.int v2), .val (.int v3), .val (.int v4), .val (.ref b5), .val (.int (2 : Int32)), .val (.ref b21), .unset, .unset] [])
        have hS : own_St v1.toNatClampNeg (fun _ => 0) (fun _ => 0) (0 : Int32) [] := own_St0
        refine Goes.go (fun _ => XS.aload S.here B.x rfl (B.d at_107) rfl rfl) ?_
        show Goes _ _ _ _ T (mkF me_ 109 #[.val (.int p0), .val (.int p1), .val (.int p2), .val (.int p3), .val (.int v1), .val (.int v2), .val (.int v3), .val (.int v4), .val (.ref b5), .val (.int (2 : Int32)), .val (.ref b21), .unset, .unset] [(.ref b21)])
        refine Goes.go (fun _ => XS.iload S.here B.x rfl (B.d at_109) rfl) ?_
        show Goes _ _ _ _ T (mkF me_ 111 #[.val (.int p0), .val (.int p1), .val (.int p2), .val (.int p3), .val (.int v1), .val (.int v2), .val (.int v3), .val (.int v4), .val (.ref b5), .val (.int (2 : Int32)), .val (.ref b21), .unset, .unset] [(.int v2), (.ref b21)])
        refine Goes.callV (argsL := [(.int v2)]) (rest := []) (W := 0) S B (rm_add l Z aw hw b21 v2 b22 b23 v1.toNatClampNeg (fun _ => 0) (fun _ => 0) (0 : Int32) _ n0 E_b21 F_b21_items F_b21_held F_b21_count A_b22 A_b23 g_b21 g_b22 g_b23 ne_b21__b22 ne_b21__b23 ne_b22__b23 rv2.1 rv2.2 (own_cn hS) (fun q => own_cl hS (own_cap0 hS rv2.1 rv2.2 (own_hz hS rv2.1 rv2.2 q)))) E_b21 (w16 hw) (w17 hw) (w19 hw) (w18 hw) (w4 hw) (w20 hw) (by decide) (by decide) (by decide) (by decide) (by decide) rfl (lenOf pd_0 rfl) rfl (Nat.le_of_eq rfl) at_111 ?_
        intro v T h S hQ
        obtain ⟨u24, u25, u26, rfl, Kc, E_b21', F_b21_items', F_b21_held', F_b21_count', A_b22', A_b23', hr_111⟩ := hQ
        replace A_b5 := A_b5.keep Kc (ninS ne_b5__b21 (ninS ne_b5__b22 (ninS ne_b5__b23 nin0)))
        replace E_b21 := E_b21'
        replace F_b21_items := F_b21_items'
        replace F_b21_held := F_b21_held'
        replace F_b21_count := F_b21_count'
        replace A_b22 := A_b22'
        replace A_b23 := A_b23'
        show Goes _ _ _ _ T (mkF me_ 114 #[.val (.int p0), .val (.int p1), .val (.int p2), .val (.int p3), .val (.int v1), .val (.int v2), .val (.int v3), .val (.int v4), .val (.ref b5), .val (.int (2 : Int32)), .val (.ref b21), .unset, .unset] [])
        replace hS := own_addN hS hr_111 rv2.1 rv2.2 (by simp) (own_cap0 hS rv2.1 rv2.2 (by simp)) (by simp)
        simp only [List.nil_append, List.cons_append] at hS
        refine Goes.go (fun _ => XS.aload S.here B.x rfl (B.d at_114) rfl rfl) ?_
        show Goes _ _ _ _ T (mkF me_ 116 #[.val (.int p0), .val (.int p1), .val (.int p2), .val (.int p3), .val (.int v1), .val (.int v2), .val (.int v3), .val (.int v4), .val (.ref b5), .val (.int (2 : Int32)), .val (.ref b21), .unset, .unset] [(.ref b21)])
        refine Goes.go (fun _ => XS.iload S.here B.x rfl (B.d at_116) rfl) ?_
        show Goes _ _ _ _ T (mkF me_ 118 #[.val (.int p0), .val (.int p1), .val (.int p2), .val (.int p3), .val (.int v1), .val (.int v2), .val (.int v3), .val (.int v4), .val (.ref b5), .val (.int (2 : Int32)), .val (.ref b21), .unset, .unset] [(.int v3), (.ref b21)])
        refine Goes.callV (argsL := [(.int v3)]) (rest := []) (W := 0) S B (rm_add l Z aw hw b21 v3 b22 b23 v1.toNatClampNeg u24 u25 u26 _ n0 E_b21 F_b21_items F_b21_held F_b21_count A_b22 A_b23 g_b21 g_b22 g_b23 ne_b21__b22 ne_b21__b23 ne_b22__b23 rv3.1 rv3.2 (own_cn hS) (fun q => own_cl hS (own_cap1 hS rv3.1 rv3.2 (own_hz hS rv3.1 rv3.2 q)))) E_b21 (w16 hw) (w17 hw) (w19 hw) (w18 hw) (w4 hw) (w20 hw) (by decide) (by decide) (by decide) (by decide) (by decide) rfl (lenOf pd_0 rfl) rfl (Nat.le_of_eq rfl) at_118 ?_
        intro v T h S hQ
        obtain ⟨u27, u28, u29, rfl, Kc, E_b21', F_b21_items', F_b21_held', F_b21_count', A_b22', A_b23', hr_118⟩ := hQ
        replace A_b5 := A_b5.keep Kc (ninS ne_b5__b21 (ninS ne_b5__b22 (ninS ne_b5__b23 nin0)))
        replace E_b21 := E_b21'
        replace F_b21_items := F_b21_items'
        replace F_b21_held := F_b21_held'
        replace F_b21_count := F_b21_count'
        replace A_b22 := A_b22'
        replace A_b23 := A_b23'
        show Goes _ _ _ _ T (mkF me_ 121 #[.val (.int p0), .val (.int p1), .val (.int p2), .val (.int p3), .val (.int v1), .val (.int v2), .val (.int v3), .val (.int v4), .val (.ref b5), .val (.int (2 : Int32)), .val (.ref b21), .unset, .unset] [])
        replace hS := own_addO hS hr_118 rv3.1 rv3.2 (by simp [hc53])
        refine Goes.go (fun _ => XS.aload S.here B.x rfl (B.d at_121) rfl rfl) ?_
        show Goes _ _ _ _ T (mkF me_ 123 #[.val (.int p0), .val (.int p1), .val (.int p2), .val (.int p3), .val (.int v1), .val (.int v2), .val (.int v3), .val (.int v4), .val (.ref b5), .val (.int (2 : Int32)), .val (.ref b21), .unset, .unset] [(.ref b21)])
        refine Goes.go (fun _ => XS.iload S.here B.x rfl (B.d at_123) rfl) ?_
        show Goes _ _ _ _ T (mkF me_ 125 #[.val (.int p0), .val (.int p1), .val (.int p2), .val (.int p3), .val (.int v1), .val (.int v2), .val (.int v3), .val (.int v4), .val (.ref b5), .val (.int (2 : Int32)), .val (.ref b21), .unset, .unset] [(.int v4), (.ref b21)])
        refine Goes.callV (argsL := [(.int v4)]) (rest := []) (W := 0) S B (rm_add l Z aw hw b21 v4 b22 b23 v1.toNatClampNeg u27 u28 u29 _ n0 E_b21 F_b21_items F_b21_held F_b21_count A_b22 A_b23 g_b21 g_b22 g_b23 ne_b21__b22 ne_b21__b23 ne_b22__b23 rv4.1 rv4.2 (own_cn hS) (fun q => own_cl hS (own_cap1 hS rv4.1 rv4.2 (own_hz hS rv4.1 rv4.2 q)))) E_b21 (w16 hw) (w17 hw) (w19 hw) (w18 hw) (w4 hw) (w20 hw) (by decide) (by decide) (by decide) (by decide) (by decide) rfl (lenOf pd_0 rfl) rfl (Nat.le_of_eq rfl) at_125 ?_
        intro v T h S hQ
        obtain ⟨u30, u31, u32, rfl, Kc, E_b21', F_b21_items', F_b21_held', F_b21_count', A_b22', A_b23', hr_125⟩ := hQ
        replace A_b5 := A_b5.keep Kc (ninS ne_b5__b21 (ninS ne_b5__b22 (ninS ne_b5__b23 nin0)))
        replace E_b21 := E_b21'
        replace F_b21_items := F_b21_items'
        replace F_b21_held := F_b21_held'
        replace F_b21_count := F_b21_count'
        replace A_b22 := A_b22'
        replace A_b23 := A_b23'
        show Goes _ _ _ _ T (mkF me_ 128 #[.val (.int p0), .val (.int p1), .val (.int p2), .val (.int p3), .val (.int v1), .val (.int v2), .val (.int v3), .val (.int v4), .val (.ref b5), .val (.int (2 : Int32)), .val (.ref b21), .unset, .unset] [])
        replace hS := own_addN hS hr_125 rv4.1 rv4.2 (by simp [hc73, hc80]) (own_cap1 hS rv4.1 rv4.2 (by simp [hc73, hc80])) (by simp)
        simp only [List.nil_append, List.cons_append] at hS
        refine Goes.go (fun _ => XS.aload S.here B.x rfl (B.d at_128) rfl rfl) ?_
        show Goes _ _ _ _ T (mkF me_ 130 #[.val (.int p0), .val (.int p1), .val (.int p2), .val (.int p3), .val (.int v1), .val (.int v2), .val (.int v3), .val (.int v4), .val (.ref b5), .val (.int (2 : Int32)), .val (.ref b21), .unset, .unset] [(.ref b21)])
        refine Goes.callV (argsL := []) (rest := []) (W := 0) S B (rm_take l Z aw hw b21 b22 b23 v1.toNatClampNeg u30 u31 u32 _ n0 E_b21 F_b21_items F_b21_held F_b21_count A_b22 A_b23 g_b21 g_b22 g_b23 ne_b21__b22 ne_b21__b23 ne_b22__b23 (own_tk (ys := [v2]) (t := v4) hS).1 (own_tk (ys := [v2]) (t := v4) hS).2.1 (own_tk (ys := [v2]) (t := v4) hS).2.2.1 (own_tk (ys := [v2]) (t := v4) hS).2.2.2) E_b21 (w23 hw) (w24 hw) (w26 hw) (w25 hw) (w4 hw) (w27 hw) (by decide) (by decide) (by decide) (by decide) (by decide) rfl (lenOf pd_1 rfl) rfl (Nat.le_of_eq rfl) at_130 ?_
        intro v T h S hQ
        obtain ⟨rfl, Kc, E_b21', F_b21_items', F_b21_held', F_b21_count', A_b22', A_b23'⟩ := hQ
        replace A_b5 := A_b5.keep Kc (ninS ne_b5__b21 (ninS ne_b5__b22 (ninS ne_b5__b23 nin0)))
        replace E_b21 := E_b21'
        replace F_b21_items := F_b21_items'
        replace F_b21_held := F_b21_held'
        replace F_b21_count := F_b21_count'
        replace A_b22 := A_b22'
        replace A_b23 := A_b23'
        show Goes _ _ _ _ T (mkF me_ 133 #[.val (.int p0), .val (.int p1), .val (.int p2), .val (.int p3), .val (.int v1), .val (.int v2), .val (.int v3), .val (.int v4), .val (.ref b5), .val (.int (2 : Int32)), .val (.ref b21), .unset, .unset] [(.int (u30 (u32 - (1 : Int32)).toNatClampNeg))])
        obtain ⟨ht, hS, htn⟩ := own_take (ys := [v2]) (t := v4) hS
        rw [show (u30 (u32 - (1 : Int32)).toNatClampNeg) = v4 from ht]
        show Goes _ _ _ _ T (mkF me_ 133 #[.val (.int p0), .val (.int p1), .val (.int p2), .val (.int p3), .val (.int v1), .val (.int v2), .val (.int v3), .val (.int v4), .val (.ref b5), .val (.int (2 : Int32)), .val (.ref b21), .unset, .unset] [(.int v4)])
        refine Goes.go (fun _ => XS.istore S.here B.x rfl (B.d at_133) rfl (l' := #[.val (.int p0), .val (.int p1), .val (.int p2), .val (.int p3), .val (.int v1), .val (.int v2), .val (.int v3), .val (.int v4), .val (.ref b5), .val (.int (2 : Int32)), .val (.ref b21), .val (.int v4), .unset]) rfl) ?_
        show Goes _ _ _ _ T (mkF me_ 135 #[.val (.int p0), .val (.int p1), .val (.int p2), .val (.int p3), .val (.int v1), .val (.int v2), .val (.int v3), .val (.int v4), .val (.ref b5), .val (.int (2 : Int32)), .val (.ref b21), .val (.int v4), .unset] [])
        refine Goes.go (fun _ => XS.iload S.here B.x rfl (B.d at_135) rfl) ?_
        show Goes _ _ _ _ T (mkF me_ 137 #[.val (.int p0), .val (.int p1), .val (.int p2), .val (.int p3), .val (.int v1), .val (.int v2), .val (.int v3), .val (.int v4), .val (.ref b5), .val (.int (2 : Int32)), .val (.ref b21), .val (.int v4), .unset] [(.int v4)])
        refine Goes.go (fun _ => XS.aload S.here B.x rfl (B.d at_137) rfl rfl) ?_
        show Goes _ _ _ _ T (mkF me_ 139 #[.val (.int p0), .val (.int p1), .val (.int p2), .val (.int p3), .val (.int v1), .val (.int v2), .val (.int v3), .val (.int v4), .val (.ref b5), .val (.int (2 : Int32)), .val (.ref b21), .val (.int v4), .unset] [(.ref b5), (.int v4)])
        refine Goes.go (fun _ => XS.iload S.here B.x rfl (B.d at_139) rfl) ?_
        show Goes _ _ _ _ T (mkF me_ 141 #[.val (.int p0), .val (.int p1), .val (.int p2), .val (.int p3), .val (.int v1), .val (.int v2), .val (.int v3), .val (.int v4), .val (.ref b5), .val (.int (2 : Int32)), .val (.ref b21), .val (.int v4), .unset] [(.int (2 : Int32)), (.ref b5), (.int v4)])
        refine Goes.go (fun _ => XS.iconst S.here B.x rfl (B.d at_141)) ?_
        show Goes _ _ _ _ T (mkF me_ 142 #[.val (.int p0), .val (.int p1), .val (.int p2), .val (.int p3), .val (.int v1), .val (.int v2), .val (.int v3), .val (.int v4), .val (.ref b5), .val (.int (2 : Int32)), .val (.ref b21), .val (.int v4), .unset] [(.int (1 : Int32)), (.int (2 : Int32)), (.ref b5), (.int v4)])
        refine Goes.go (fun _ => XS.isub S.here B.x rfl (B.d at_142) rfl) ?_
        show Goes _ _ _ _ T (mkF me_ 143 #[.val (.int p0), .val (.int p1), .val (.int p2), .val (.int p3), .val (.int v1), .val (.int v2), .val (.int v3), .val (.int v4), .val (.ref b5), .val (.int (2 : Int32)), .val (.ref b21), .val (.int v4), .unset] [(.int (1 : Int32)), (.ref b5), (.int v4)])
        refine Goes.iaload S B A_b5 (by decide) (by decide) at_143 (v := (.int v4)) rfl ?_
        show Goes _ _ _ _ T (mkF me_ 144 #[.val (.int p0), .val (.int p1), .val (.int p2), .val (.int p3), .val (.int v1), .val (.int v2), .val (.int v3), .val (.int v4), .val (.ref b5), .val (.int (2 : Int32)), .val (.ref b21), .val (.int v4), .unset] [(.int v4), (.int v4)])
        refine Goes.go (fun _ => XS.icmpNo S.here B.x rfl (B.d at_144) rfl (teq (rfl : v4 = v4)).2) ?_
        show Goes _ _ _ _ T (mkF me_ 147 #[.val (.int p0), .val (.int p1), .val (.int p2), .val (.int p3), .val (.int v1), .val (.int v2), .val (.int v3), .val (.int v4), .val (.ref b5), .val (.int (2 : Int32)), .val (.ref b21), .val (.int v4), .unset] [])
        refine Goes.go (fun _ => XS.aload S.here B.x rfl (B.d at_147) rfl rfl) ?_
        show Goes _ _ _ _ T (mkF me_ 149 #[.val (.int p0), .val (.int p1), .val (.int p2), .val (.int p3), .val (.int v1), .val (.int v2), .val (.int v3), .val (.int v4), .val (.ref b5), .val (.int (2 : Int32)), .val (.ref b21), .val (.int v4), .unset] [(.ref b21)])
        refine Goes.callV (argsL := []) (rest := []) (W := 0) S B (rm_size l Z aw hw b21 (u32 - (1 : Int32)) _ n0 F_b21_count) E_b21 (w28 hw) (w29 hw) (w31 hw) (w30 hw) (w4 hw) (w32 hw) (by decide) (by decide) (by decide) (by decide) (by decide) rfl (lenOf pd_1 rfl) rfl (Nat.le_of_eq rfl) at_149 ?_
        intro v T h S hQ
        obtain ⟨rfl, hh⟩ := hQ
        replace hh := hh.symm
        subst hh
        show Goes _ _ _ _ T (mkF me_ 152 #[.val (.int p0), .val (.int p1), .val (.int p2), .val (.int p3), .val (.int v1), .val (.int v2), .val (.int v3), .val (.int v4), .val (.ref b5), .val (.int (2 : Int32)), .val (.ref b21), .val (.int v4), .unset] [(.int (u32 - (1 : Int32)))])
        refine Goes.go (fun _ => XS.iload S.here B.x rfl (B.d at_152) rfl) ?_
        show Goes _ _ _ _ T (mkF me_ 154 #[.val (.int p0), .val (.int p1), .val (.int p2), .val (.int p3), .val (.int v1), .val (.int v2), .val (.int v3), .val (.int v4), .val (.ref b5), .val (.int (2 : Int32)), .val (.ref b21), .val (.int v4), .unset] [(.int (2 : Int32)), (.int (u32 - (1 : Int32)))])
        refine Goes.go (fun _ => XS.iconst S.here B.x rfl (B.d at_154)) ?_
        show Goes _ _ _ _ T (mkF me_ 155 #[.val (.int p0), .val (.int p1), .val (.int p2), .val (.int p3), .val (.int v1), .val (.int v2), .val (.int v3), .val (.int v4), .val (.ref b5), .val (.int (2 : Int32)), .val (.ref b21), .val (.int v4), .unset] [(.int (1 : Int32)), (.int (2 : Int32)), (.int (u32 - (1 : Int32)))])
        refine Goes.go (fun _ => XS.isub S.here B.x rfl (B.d at_155) rfl) ?_
        show Goes _ _ _ _ T (mkF me_ 156 #[.val (.int p0), .val (.int p1), .val (.int p2), .val (.int p3), .val (.int v1), .val (.int v2), .val (.int v3), .val (.int v4), .val (.ref b5), .val (.int (2 : Int32)), .val (.ref b21), .val (.int v4), .unset] [(.int (1 : Int32)), (.int (u32 - (1 : Int32)))])
        refine Goes.go (fun _ => XS.icmpNo S.here B.x rfl (B.d at_156) rfl (teq (show (u32 - (1 : Int32)) = (1 : Int32) from own_len hS)).2) ?_
        show Goes _ _ _ _ T (mkF me_ 159 #[.val (.int p0), .val (.int p1), .val (.int p2), .val (.int p3), .val (.int v1), .val (.int v2), .val (.int v3), .val (.int v4), .val (.ref b5), .val (.int (2 : Int32)), .val (.ref b21), .val (.int v4), .unset] [])
        refine Goes.go (fun _ => XS.iconst S.here B.x rfl (B.d at_159)) ?_
        show Goes _ _ _ _ T (mkF me_ 160 #[.val (.int p0), .val (.int p1), .val (.int p2), .val (.int p3), .val (.int v1), .val (.int v2), .val (.int v3), .val (.int v4), .val (.ref b5), .val (.int (2 : Int32)), .val (.ref b21), .val (.int v4), .unset] [(.int (1 : Int32))])
        refine Goes.go (fun _ => XS.goto S.here B.x rfl (pc0 := 160) (pc' := 164) rfl (B.d at_160) (by decide) (by decide)) ?_
        show Goes _ _ _ _ T (mkF me_ 164 #[.val (.int p0), .val (.int p1), .val (.int p2), .val (.int p3), .val (.int v1), .val (.int v2), .val (.int v3), .val (.int v4), .val (.ref b5), .val (.int (2 : Int32)), .val (.ref b21), .val (.int v4), .unset] [(.int (1 : Int32))])
        refine Goes.go (fun _ => XS.istore S.here B.x rfl (B.d at_164) rfl (l' := #[.val (.int p0), .val (.int p1), .val (.int p2), .val (.int p3), .val (.int v1), .val (.int v2), .val (.int v3), .val (.int v4), .val (.ref b5), .val (.int (2 : Int32)), .val (.ref b21), .val (.int v4), .val (.int (1 : Int32))]) rfl) ?_
        show Goes _ _ _ _ T (mkF me_ 166 #[.val (.int p0), .val (.int p1), .val (.int p2), .val (.int p3), .val (.int v1), .val (.int v2), .val (.int v3), .val (.int v4), .val (.ref b5), .val (.int (2 : Int32)), .val (.ref b21), .val (.int v4), .val (.int (1 : Int32))] [])
        refine Goes.go (fun _ => XS.iload S.here B.x rfl (B.d at_166) rfl) ?_
        show Goes _ _ _ _ T (mkF me_ 168 #[.val (.int p0), .val (.int p1), .val (.int p2), .val (.int p3), .val (.int v1), .val (.int v2), .val (.int v3), .val (.int v4), .val (.ref b5), .val (.int (2 : Int32)), .val (.ref b21), .val (.int v4), .val (.int (1 : Int32))] [(.int (2 : Int32))])
        refine Goes.go (fun _ => XS.iconst S.here B.x rfl (B.d at_168)) ?_
        show Goes _ _ _ _ T (mkF me_ 169 #[.val (.int p0), .val (.int p1), .val (.int p2), .val (.int p3), .val (.int v1), .val (.int v2), .val (.int v3), .val (.int v4), .val (.ref b5), .val (.int (2 : Int32)), .val (.ref b21), .val (.int v4), .val (.int (1 : Int32))] [(.int (2 : Int32)), (.int (2 : Int32))])
        refine Goes.go (fun _ => XS.icmpNo S.here B.x rfl (B.d at_169) rfl (by decide)) ?_
        show Goes _ _ _ _ T (mkF me_ 172 #[.val (.int p0), .val (.int p1), .val (.int p2), .val (.int p3), .val (.int v1), .val (.int v2), .val (.int v3), .val (.int v4), .val (.ref b5), .val (.int (2 : Int32)), .val (.ref b21), .val (.int v4), .val (.int (1 : Int32))] [])
        refine Goes.go (fun _ => XS.iload S.here B.x rfl (B.d at_172) rfl) ?_
        show Goes _ _ _ _ T (mkF me_ 174 #[.val (.int p0), .val (.int p1), .val (.int p2), .val (.int p3), .val (.int v1), .val (.int v2), .val (.int v3), .val (.int v4), .val (.ref b5), .val (.int (2 : Int32)), .val (.ref b21), .val (.int v4), .val (.int (1 : Int32))] [(.int (1 : Int32))])
        refine Goes.go (fun _ => XS.ifNo S.here B.x rfl (B.d at_174) rfl (by decide)) ?_
        show Goes _ _ _ _ T (mkF me_ 177 #[.val (.int p0), .val (.int p1), .val (.int p2), .val (.int p3), .val (.int v1), .val (.int v2), .val (.int v3), .val (.int v4), .val (.ref b5), .val (.int (2 : Int32)), .val (.ref b21), .val (.int v4), .val (.int (1 : Int32))] [])
        refine Goes.go (fun _ => XS.aload S.here B.x rfl (B.d at_177) rfl rfl) ?_
        show Goes _ _ _ _ T (mkF me_ 179 #[.val (.int p0), .val (.int p1), .val (.int p2), .val (.int p3), .val (.int v1), .val (.int v2), .val (.int v3), .val (.int v4), .val (.ref b5), .val (.int (2 : Int32)), .val (.ref b21), .val (.int v4), .val (.int (1 : Int32))] [(.ref b21)])
        refine Goes.go (fun _ => XS.iconst S.here B.x rfl (B.d at_179)) ?_
        show Goes _ _ _ _ T (mkF me_ 180 #[.val (.int p0), .val (.int p1), .val (.int p2), .val (.int p3), .val (.int v1), .val (.int v2), .val (.int v3), .val (.int v4), .val (.ref b5), .val (.int (2 : Int32)), .val (.ref b21), .val (.int v4), .val (.int (1 : Int32))] [(.int (0 : Int32)), (.ref b21)])
        refine Goes.callV (argsL := [(.int (0 : Int32))]) (rest := []) (W := 0) S B (rm_get l Z aw hw b21 (0 : Int32) b22 v1.toNatClampNeg u30 _ n0 F_b21_items A_b22 (by decide) (own_ix hS 0 (by decide) (by simp))) E_b21 (w33 hw) (w34 hw) (w36 hw) (w35 hw) (w4 hw) (w37 hw) (by decide) (by decide) (by decide) (by decide) (by decide) rfl (lenOf pd_2 rfl) rfl (Nat.le_of_eq rfl) at_180 ?_
        intro v T h S hQ
        obtain ⟨rfl, hh⟩ := hQ
        replace hh := hh.symm
        subst hh
        show Goes _ _ _ _ T (mkF me_ 183 #[.val (.int p0), .val (.int p1), .val (.int p2), .val (.int p3), .val (.int v1), .val (.int v2), .val (.int v3), .val (.int v4), .val (.ref b5), .val (.int (2 : Int32)), .val (.ref b21), .val (.int v4), .val (.int (1 : Int32))] [(.int (u30 (0 : Int32).toNatClampNeg))])
        refine Goes.go (fun _ => XS.aload S.here B.x rfl (B.d at_183) rfl rfl) ?_
        show Goes _ _ _ _ T (mkF me_ 185 #[.val (.int p0), .val (.int p1), .val (.int p2), .val (.int p3), .val (.int v1), .val (.int v2), .val (.int v3), .val (.int v4), .val (.ref b5), .val (.int (2 : Int32)), .val (.ref b21), .val (.int v4), .val (.int (1 : Int32))] [(.ref b5), (.int (u30 (0 : Int32).toNatClampNeg))])
        refine Goes.go (fun _ => XS.iconst S.here B.x rfl (B.d at_185)) ?_
        show Goes _ _ _ _ T (mkF me_ 186 #[.val (.int p0), .val (.int p1), .val (.int p2), .val (.int p3), .val (.int v1), .val (.int v2), .val (.int v3), .val (.int v4), .val (.ref b5), .val (.int (2 : Int32)), .val (.ref b21), .val (.int v4), .val (.int (1 : Int32))] [(.int (0 : Int32)), (.ref b5), (.int (u30 (0 : Int32).toNatClampNeg))])
        refine Goes.iaload S B A_b5 (by decide) (by decide) at_186 (v := (.int v2)) rfl ?_
        show Goes _ _ _ _ T (mkF me_ 187 #[.val (.int p0), .val (.int p1), .val (.int p2), .val (.int p3), .val (.int v1), .val (.int v2), .val (.int v3), .val (.int v4), .val (.ref b5), .val (.int (2 : Int32)), .val (.ref b21), .val (.int v4), .val (.int (1 : Int32))] [(.int v2), (.int (u30 (0 : Int32).toNatClampNeg))])
        refine Goes.go (fun _ => XS.icmpNo S.here B.x rfl (B.d at_187) rfl (teq (show (u30 (0 : Int32).toNatClampNeg) = v2 from own_get hS 0 rfl)).2) ?_
        show Goes _ _ _ _ T (mkF me_ 190 #[.val (.int p0), .val (.int p1), .val (.int p2), .val (.int p3), .val (.int v1), .val (.int v2), .val (.int v3), .val (.int v4), .val (.ref b5), .val (.int (2 : Int32)), .val (.ref b21), .val (.int v4), .val (.int (1 : Int32))] [])
        refine Goes.go (fun _ => XS.iconst S.here B.x rfl (B.d at_190)) ?_
        show Goes _ _ _ _ T (mkF me_ 191 #[.val (.int p0), .val (.int p1), .val (.int p2), .val (.int p3), .val (.int v1), .val (.int v2), .val (.int v3), .val (.int v4), .val (.ref b5), .val (.int (2 : Int32)), .val (.ref b21), .val (.int v4), .val (.int (1 : Int32))] [(.int (1 : Int32))])
        refine Goes.go (fun _ => XS.goto S.here B.x rfl (pc0 := 191) (pc' := 195) rfl (B.d at_191) (by decide) (by decide)) ?_
        show Goes _ _ _ _ T (mkF me_ 195 #[.val (.int p0), .val (.int p1), .val (.int p2), .val (.int p3), .val (.int v1), .val (.int v2), .val (.int v3), .val (.int v4), .val (.ref b5), .val (.int (2 : Int32)), .val (.ref b21), .val (.int v4), .val (.int (1 : Int32))] [(.int (1 : Int32))])
        refine Goes.go (fun _ => XS.istore S.here B.x rfl (B.d at_195) rfl (l' := #[.val (.int p0), .val (.int p1), .val (.int p2), .val (.int p3), .val (.int v1), .val (.int v2), .val (.int v3), .val (.int v4), .val (.ref b5), .val (.int (2 : Int32)), .val (.ref b21), .val (.int v4), .val (.int (1 : Int32))]) rfl) ?_
        show Goes _ _ _ _ T (mkF me_ 197 #[.val (.int p0), .val (.int p1), .val (.int p2), .val (.int p3), .val (.int v1), .val (.int v2), .val (.int v3), .val (.int v4), .val (.ref b5), .val (.int (2 : Int32)), .val (.ref b21), .val (.int v4), .val (.int (1 : Int32))] [])
        refine Goes.go (fun _ => XS.iload S.here B.x rfl (B.d at_197) rfl) ?_
        show Goes _ _ _ _ T (mkF me_ 199 #[.val (.int p0), .val (.int p1), .val (.int p2), .val (.int p3), .val (.int v1), .val (.int v2), .val (.int v3), .val (.int v4), .val (.ref b5), .val (.int (2 : Int32)), .val (.ref b21), .val (.int v4), .val (.int (1 : Int32))] [(.int (2 : Int32))])
        refine Goes.go (fun _ => XS.iconst S.here B.x rfl (B.d at_199)) ?_
        show Goes _ _ _ _ T (mkF me_ 200 #[.val (.int p0), .val (.int p1), .val (.int p2), .val (.int p3), .val (.int v1), .val (.int v2), .val (.int v3), .val (.int v4), .val (.ref b5), .val (.int (2 : Int32)), .val (.ref b21), .val (.int v4), .val (.int (1 : Int32))] [(.int (3 : Int32)), (.int (2 : Int32))])
        refine Goes.go (fun _ => XS.icmpYes S.here B.x rfl (pc0 := 200) (pc' := 228) rfl (B.d at_200) rfl (by decide) (by decide) (by decide)) ?_
        show Goes _ _ _ _ T (mkF me_ 228 #[.val (.int p0), .val (.int p1), .val (.int p2), .val (.int p3), .val (.int v1), .val (.int v2), .val (.int v3), .val (.int v4), .val (.ref b5), .val (.int (2 : Int32)), .val (.ref b21), .val (.int v4), .val (.int (1 : Int32))] [])
        refine Goes.go (fun _ => XS.aload S.here B.x rfl (B.d at_228) rfl rfl) ?_
        show Goes _ _ _ _ T (mkF me_ 230 #[.val (.int p0), .val (.int p1), .val (.int p2), .val (.int p3), .val (.int v1), .val (.int v2), .val (.int v3), .val (.int v4), .val (.ref b5), .val (.int (2 : Int32)), .val (.ref b21), .val (.int v4), .val (.int (1 : Int32))] [(.ref b21)])
        refine Goes.go (fun _ => XS.iload S.here B.x rfl (B.d at_230) rfl) ?_
        show Goes _ _ _ _ T (mkF me_ 232 #[.val (.int p0), .val (.int p1), .val (.int p2), .val (.int p3), .val (.int v1), .val (.int v2), .val (.int v3), .val (.int v4), .val (.ref b5), .val (.int (2 : Int32)), .val (.ref b21), .val (.int v4), .val (.int (1 : Int32))] [(.int v4), (.ref b21)])
        refine Goes.callV (argsL := [(.int v4)]) (rest := []) (W := 0) S B (rm_add l Z aw hw b21 v4 b22 b23 v1.toNatClampNeg u30 (aup u31 (u30 (u32 - (1 : Int32)).toNatClampNeg).toNatClampNeg 0) (u32 - (1 : Int32)) _ n0 E_b21 F_b21_items F_b21_held F_b21_count A_b22 A_b23 g_b21 g_b22 g_b23 ne_b21__b22 ne_b21__b23 ne_b22__b23 rv4.1 rv4.2 (own_cn hS) (fun q => own_cl hS (own_cap1 hS rv4.1 rv4.2 (own_hz hS rv4.1 rv4.2 q)))) E_b21 (w16 hw) (w17 hw) (w19 hw) (w18 hw) (w4 hw) (w20 hw) (by decide) (by decide) (by decide) (by decide) (by decide) rfl (lenOf pd_0 rfl) rfl (Nat.le_of_eq rfl) at_232 ?_
        intro v T h S hQ
        obtain ⟨u33, u34, u35, rfl, Kc, E_b21', F_b21_items', F_b21_held', F_b21_count', A_b22', A_b23', hr_232⟩ := hQ
        replace A_b5 := A_b5.keep Kc (ninS ne_b5__b21 (ninS ne_b5__b22 (ninS ne_b5__b23 nin0)))
        replace E_b21 := E_b21'
        replace F_b21_items := F_b21_items'
        replace F_b21_held := F_b21_held'
        replace F_b21_count := F_b21_count'
        replace A_b22 := A_b22'
        replace A_b23 := A_b23'
        show Goes _ _ _ _ T (mkF me_ 235 #[.val (.int p0), .val (.int p1), .val (.int p2), .val (.int p3), .val (.int v1), .val (.int v2), .val (.int v3), .val (.int v4), .val (.ref b5), .val (.int (2 : Int32)), .val (.ref b21), .val (.int v4), .val (.int (1 : Int32))] [])
        replace hS := own_addN hS hr_232 rv4.1 rv4.2 htn (own_cap1 hS rv4.1 rv4.2 htn) (by simp)
        simp only [List.nil_append, List.cons_append] at hS
        refine Goes.go (fun _ => XS.iload S.here B.x rfl (B.d at_235) rfl) ?_
        show Goes _ _ _ _ T (mkF me_ 237 #[.val (.int p0), .val (.int p1), .val (.int p2), .val (.int p3), .val (.int v1), .val (.int v2), .val (.int v3), .val (.int v4), .val (.ref b5), .val (.int (2 : Int32)), .val (.ref b21), .val (.int v4), .val (.int (1 : Int32))] [(.int (1 : Int32))])
        refine Goes.go (fun _ => XS.ifNo S.here B.x rfl (B.d at_237) rfl (by decide)) ?_
        show Goes _ _ _ _ T (mkF me_ 240 #[.val (.int p0), .val (.int p1), .val (.int p2), .val (.int p3), .val (.int v1), .val (.int v2), .val (.int v3), .val (.int v4), .val (.ref b5), .val (.int (2 : Int32)), .val (.ref b21), .val (.int v4), .val (.int (1 : Int32))] [])
        refine Goes.go (fun _ => XS.aload S.here B.x rfl (B.d at_240) rfl rfl) ?_
        show Goes _ _ _ _ T (mkF me_ 242 #[.val (.int p0), .val (.int p1), .val (.int p2), .val (.int p3), .val (.int v1), .val (.int v2), .val (.int v3), .val (.int v4), .val (.ref b5), .val (.int (2 : Int32)), .val (.ref b21), .val (.int v4), .val (.int (1 : Int32))] [(.ref b21)])
        refine Goes.callV (argsL := []) (rest := []) (W := 0) S B (rm_size l Z aw hw b21 u35 _ n0 F_b21_count) E_b21 (w28 hw) (w29 hw) (w31 hw) (w30 hw) (w4 hw) (w32 hw) (by decide) (by decide) (by decide) (by decide) (by decide) rfl (lenOf pd_1 rfl) rfl (Nat.le_of_eq rfl) at_242 ?_
        intro v T h S hQ
        obtain ⟨rfl, hh⟩ := hQ
        replace hh := hh.symm
        subst hh
        show Goes _ _ _ _ T (mkF me_ 245 #[.val (.int p0), .val (.int p1), .val (.int p2), .val (.int p3), .val (.int v1), .val (.int v2), .val (.int v3), .val (.int v4), .val (.ref b5), .val (.int (2 : Int32)), .val (.ref b21), .val (.int v4), .val (.int (1 : Int32))] [(.int u35)])
        refine Goes.go (fun _ => XS.iload S.here B.x rfl (B.d at_245) rfl) ?_
        show Goes _ _ _ _ T (mkF me_ 247 #[.val (.int p0), .val (.int p1), .val (.int p2), .val (.int p3), .val (.int v1), .val (.int v2), .val (.int v3), .val (.int v4), .val (.ref b5), .val (.int (2 : Int32)), .val (.ref b21), .val (.int v4), .val (.int (1 : Int32))] [(.int (2 : Int32)), (.int u35)])
        refine Goes.go (fun _ => XS.icmpNo S.here B.x rfl (B.d at_247) rfl (teq (show u35 = (2 : Int32) from own_len hS)).2) ?_
        show Goes _ _ _ _ T (mkF me_ 250 #[.val (.int p0), .val (.int p1), .val (.int p2), .val (.int p3), .val (.int v1), .val (.int v2), .val (.int v3), .val (.int v4), .val (.ref b5), .val (.int (2 : Int32)), .val (.ref b21), .val (.int v4), .val (.int (1 : Int32))] [])
        refine Goes.go (fun _ => XS.aload S.here B.x rfl (B.d at_250) rfl rfl) ?_
        show Goes _ _ _ _ T (mkF me_ 252 #[.val (.int p0), .val (.int p1), .val (.int p2), .val (.int p3), .val (.int v1), .val (.int v2), .val (.int v3), .val (.int v4), .val (.ref b5), .val (.int (2 : Int32)), .val (.ref b21), .val (.int v4), .val (.int (1 : Int32))] [(.ref b21)])
        refine Goes.go (fun _ => XS.iload S.here B.x rfl (B.d at_252) rfl) ?_
        show Goes _ _ _ _ T (mkF me_ 254 #[.val (.int p0), .val (.int p1), .val (.int p2), .val (.int p3), .val (.int v1), .val (.int v2), .val (.int v3), .val (.int v4), .val (.ref b5), .val (.int (2 : Int32)), .val (.ref b21), .val (.int v4), .val (.int (1 : Int32))] [(.int (2 : Int32)), (.ref b21)])
        refine Goes.go (fun _ => XS.iconst S.here B.x rfl (B.d at_254)) ?_
        show Goes _ _ _ _ T (mkF me_ 255 #[.val (.int p0), .val (.int p1), .val (.int p2), .val (.int p3), .val (.int v1), .val (.int v2), .val (.int v3), .val (.int v4), .val (.ref b5), .val (.int (2 : Int32)), .val (.ref b21), .val (.int v4), .val (.int (1 : Int32))] [(.int (1 : Int32)), (.int (2 : Int32)), (.ref b21)])
        refine Goes.go (fun _ => XS.isub S.here B.x rfl (B.d at_255) rfl) ?_
        show Goes _ _ _ _ T (mkF me_ 256 #[.val (.int p0), .val (.int p1), .val (.int p2), .val (.int p3), .val (.int v1), .val (.int v2), .val (.int v3), .val (.int v4), .val (.ref b5), .val (.int (2 : Int32)), .val (.ref b21), .val (.int v4), .val (.int (1 : Int32))] [(.int (1 : Int32)), (.ref b21)])
        refine Goes.callV (argsL := [(.int (1 : Int32))]) (rest := []) (W := 0) S B (rm_get l Z aw hw b21 (1 : Int32) b22 v1.toNatClampNeg u33 _ n0 F_b21_items A_b22 (by decide) (own_ix hS 1 (by decide) (by simp))) E_b21 (w33 hw) (w34 hw) (w36 hw) (w35 hw) (w4 hw) (w37 hw) (by decide) (by decide) (by decide) (by decide) (by decide) rfl (lenOf pd_2 rfl) rfl (Nat.le_of_eq rfl) at_256 ?_
        intro v T h S hQ
        obtain ⟨rfl, hh⟩ := hQ
        replace hh := hh.symm
        subst hh
        show Goes _ _ _ _ T (mkF me_ 259 #[.val (.int p0), .val (.int p1), .val (.int p2), .val (.int p3), .val (.int v1), .val (.int v2), .val (.int v3), .val (.int v4), .val (.ref b5), .val (.int (2 : Int32)), .val (.ref b21), .val (.int v4), .val (.int (1 : Int32))] [(.int (u33 (1 : Int32).toNatClampNeg))])
        refine Goes.go (fun _ => XS.iload S.here B.x rfl (B.d at_259) rfl) ?_
        show Goes _ _ _ _ T (mkF me_ 261 #[.val (.int p0), .val (.int p1), .val (.int p2), .val (.int p3), .val (.int v1), .val (.int v2), .val (.int v3), .val (.int v4), .val (.ref b5), .val (.int (2 : Int32)), .val (.ref b21), .val (.int v4), .val (.int (1 : Int32))] [(.int v4), (.int (u33 (1 : Int32).toNatClampNeg))])
        refine Goes.go (fun _ => XS.icmpNo S.here B.x rfl (B.d at_261) rfl (teq (show (u33 (1 : Int32).toNatClampNeg) = v4 from own_get hS 1 rfl)).2) ?_
        show Goes _ _ _ _ T (mkF me_ 264 #[.val (.int p0), .val (.int p1), .val (.int p2), .val (.int p3), .val (.int v1), .val (.int v2), .val (.int v3), .val (.int v4), .val (.ref b5), .val (.int (2 : Int32)), .val (.ref b21), .val (.int v4), .val (.int (1 : Int32))] [])
        refine Goes.go (fun _ => XS.iconst S.here B.x rfl (B.d at_264)) ?_
        show Goes _ _ _ _ T (mkF me_ 265 #[.val (.int p0), .val (.int p1), .val (.int p2), .val (.int p3), .val (.int v1), .val (.int v2), .val (.int v3), .val (.int v4), .val (.ref b5), .val (.int (2 : Int32)), .val (.ref b21), .val (.int v4), .val (.int (1 : Int32))] [(.int (1 : Int32))])
        refine Goes.go (fun _ => XS.goto S.here B.x rfl (pc0 := 265) (pc' := 269) rfl (B.d at_265) (by decide) (by decide)) ?_
        show Goes _ _ _ _ T (mkF me_ 269 #[.val (.int p0), .val (.int p1), .val (.int p2), .val (.int p3), .val (.int v1), .val (.int v2), .val (.int v3), .val (.int v4), .val (.ref b5), .val (.int (2 : Int32)), .val (.ref b21), .val (.int v4), .val (.int (1 : Int32))] [(.int (1 : Int32))])
        refine Goes.go (fun _ => XS.istore S.here B.x rfl (B.d at_269) rfl (l' := #[.val (.int p0), .val (.int p1), .val (.int p2), .val (.int p3), .val (.int v1), .val (.int v2), .val (.int v3), .val (.int v4), .val (.ref b5), .val (.int (2 : Int32)), .val (.ref b21), .val (.int v4), .val (.int (1 : Int32))]) rfl) ?_
        show Goes _ _ _ _ T (mkF me_ 271 #[.val (.int p0), .val (.int p1), .val (.int p2), .val (.int p3), .val (.int v1), .val (.int v2), .val (.int v3), .val (.int v4), .val (.ref b5), .val (.int (2 : Int32)), .val (.ref b21), .val (.int v4), .val (.int (1 : Int32))] [])
        refine Goes.go (fun _ => XS.iload S.here B.x rfl (B.d at_271) rfl) ?_
        show Goes _ _ _ _ T (mkF me_ 273 #[.val (.int p0), .val (.int p1), .val (.int p2), .val (.int p3), .val (.int v1), .val (.int v2), .val (.int v3), .val (.int v4), .val (.ref b5), .val (.int (2 : Int32)), .val (.ref b21), .val (.int v4), .val (.int (1 : Int32))] [(.int (1 : Int32))])
        refine Goes.retN S B (by simp) at_273 (by decide) (by decide) ?_
        exact rfl
  · skip
    refine Goes.go (fun _ => XS.icmpNo S.here B.x rfl (B.d at_53) rfl (feq hc53).1) ?_
    show Goes _ _ _ _ T (mkF me_ 56 #[.val (.int p0), .val (.int p1), .val (.int p2), .val (.int p3), .val (.int v1), .val (.int v2), .val (.int v3), .val (.int v4), .val (.ref b5), .val (.int (1 : Int32)), .unset, .unset, .unset] [])
    refine Goes.go (fun _ => XS.aload S.here B.x rfl (B.d at_56) rfl rfl) ?_
    show Goes _ _ _ _ T (mkF me_ 58 #[.val (.int p0), .val (.int p1), .val (.int p2), .val (.int p3), .val (.int v1), .val (.int v2), .val (.int v3), .val (.int v4), .val (.ref b5), .val (.int (1 : Int32)), .unset, .unset, .unset] [(.ref b5)])
    refine Goes.go (fun _ => XS.iload S.here B.x rfl (B.d at_58) rfl) ?_
    show Goes _ _ _ _ T (mkF me_ 60 #[.val (.int p0), .val (.int p1), .val (.int p2), .val (.int p3), .val (.int v1), .val (.int v2), .val (.int v3), .val (.int v4), .val (.ref b5), .val (.int (1 : Int32)), .unset, .unset, .unset] [(.int (1 : Int32)), (.ref b5)])
    refine Goes.go (fun _ => XS.iload S.here B.x rfl (B.d at_60) rfl) ?_
    show Goes _ _ _ _ T (mkF me_ 62 #[.val (.int p0), .val (.int p1), .val (.int p2), .val (.int p3), .val (.int v1), .val (.int v2), .val (.int v3), .val (.int v4), .val (.ref b5), .val (.int (1 : Int32)), .unset, .unset, .unset] [(.int v3), (.int (1 : Int32)), (.ref b5)])
    refine Goes.iastore S B A_b5 (by decide) (by decide) g_b5 at_62 ?_
    intro T h S W A_b5
    replace A_b5 : Ary Z h b5 .int 3 (aup (aup (fun _ => (.int 0)) 0 (.int v2)) 1 (.int v3)) := A_b5
    show Goes _ _ _ _ T (mkF me_ 63 #[.val (.int p0), .val (.int p1), .val (.int p2), .val (.int p3), .val (.int v1), .val (.int v2), .val (.int v3), .val (.int v4), .val (.ref b5), .val (.int (1 : Int32)), .unset, .unset, .unset] [])
    refine Goes.go (fun _ => XS.iload S.here B.x rfl (B.d at_63) rfl) ?_
    show Goes _ _ _ _ T (mkF me_ 65 #[.val (.int p0), .val (.int p1), .val (.int p2), .val (.int p3), .val (.int v1), .val (.int v2), .val (.int v3), .val (.int v4), .val (.ref b5), .val (.int (1 : Int32)), .unset, .unset, .unset] [(.int (1 : Int32))])
    refine Goes.go (fun _ => XS.iconst S.here B.x rfl (B.d at_65)) ?_
    show Goes _ _ _ _ T (mkF me_ 66 #[.val (.int p0), .val (.int p1), .val (.int p2), .val (.int p3), .val (.int v1), .val (.int v2), .val (.int v3), .val (.int v4), .val (.ref b5), .val (.int (1 : Int32)), .unset, .unset, .unset] [(.int (1 : Int32)), (.int (1 : Int32))])
    refine Goes.go (fun _ => XS.iadd S.here B.x rfl (B.d at_66) rfl) ?_
    show Goes _ _ _ _ T (mkF me_ 67 #[.val (.int p0), .val (.int p1), .val (.int p2), .val (.int p3), .val (.int v1), .val (.int v2), .val (.int v3), .val (.int v4), .val (.ref b5), .val (.int (1 : Int32)), .unset, .unset, .unset] [(.int (2 : Int32))])
    refine Goes.go (fun _ => XS.istore S.here B.x rfl (B.d at_67) rfl (l' := #[.val (.int p0), .val (.int p1), .val (.int p2), .val (.int p3), .val (.int v1), .val (.int v2), .val (.int v3), .val (.int v4), .val (.ref b5), .val (.int (2 : Int32)), .unset, .unset, .unset]) rfl) ?_
    show Goes _ _ _ _ T (mkF me_ 69 #[.val (.int p0), .val (.int p1), .val (.int p2), .val (.int p3), .val (.int v1), .val (.int v2), .val (.int v3), .val (.int v4), .val (.ref b5), .val (.int (2 : Int32)), .unset, .unset, .unset] [])
    refine Goes.go (fun _ => XS.iload S.here B.x rfl (B.d at_69) rfl) ?_
    show Goes _ _ _ _ T (mkF me_ 71 #[.val (.int p0), .val (.int p1), .val (.int p2), .val (.int p3), .val (.int v1), .val (.int v2), .val (.int v3), .val (.int v4), .val (.ref b5), .val (.int (2 : Int32)), .unset, .unset, .unset] [(.int v4)])
    refine Goes.go (fun _ => XS.iload S.here B.x rfl (B.d at_71) rfl) ?_
    show Goes _ _ _ _ T (mkF me_ 73 #[.val (.int p0), .val (.int p1), .val (.int p2), .val (.int p3), .val (.int v1), .val (.int v2), .val (.int v3), .val (.int v4), .val (.ref b5), .val (.int (2 : Int32)), .unset, .unset, .unset] [(.int v2), (.int v4)])
    by_cases hc73 : v4 = v2
    · skip
      refine Goes.go (fun _ => XS.icmpYes S.here B.x rfl (pc0 := 73) (pc' := 96) rfl (B.d at_73) rfl (teq hc73).1 (by decide) (by decide)) ?_
      show Goes _ _ _ _ T (mkF me_ 96 #[.val (.int p0), .val (.int p1), .val (.int p2), .val (.int p3), .val (.int v1), .val (.int v2), .val (.int v3), .val (.int v4), .val (.ref b5), .val (.int (2 : Int32)), .unset, .unset, .unset] [])
      refine Goes.newO S B (w2 hw) (w3 hw) (w4 hw) at_96 (by decide) (by decide) ?_
      intro T h b36 S X zb g_b36 E_b36 D
      have ne_b5__b36 : b5 ≠ b36 := Nat.ne_of_lt (Nat.lt_of_lt_of_le A_b5.lt (Nat.le_of_eq zb.symm))
      replace A_b5 := A_b5.ext X
      have F_b36_items : Fld Z h b36 "com/example/holdfast/holdfast/IndexStack" "items" "[I" .null := D (Or.inr (w12 hw)) (ty := (.array .int)) (by decide)
      have F_b36_held : Fld Z h b36 "com/example/holdfast/holdfast/IndexStack" "held" "[Z" .null := D (Or.inr (w15 hw)) (ty := (.array .boolean)) (by decide)
      have F_b36_count : Fld Z h b36 "com/example/holdfast/holdfast/IndexStack" "count" "I" (.int (0 : Int32)) := D (Or.inl (w22 hw)) (ty := .int) (by decide)
      show Goes _ _ _ _ T (mkF me_ 99 #[.val (.int p0), .val (.int p1), .val (.int p2), .val (.int p3), .val (.int v1), .val (.int v2), .val (.int v3), .val (.int v4), .val (.ref b5), .val (.int (2 : Int32)), .unset, .unset, .unset] [(.ref b36)])
      refine Goes.go (fun _ => XS.dup S.here B.x rfl (B.d at_99) rfl rfl) ?_
      show Goes _ _ _ _ T (mkF me_ 100 #[.val (.int p0), .val (.int p1), .val (.int p2), .val (.int p3), .val (.int v1), .val (.int v2), .val (.int v3), .val (.int v4), .val (.ref b5), .val (.int (2 : Int32)), .unset, .unset, .unset] [(.ref b36), (.ref b36)])
      refine Goes.go (fun _ => XS.iload S.here B.x rfl (B.d at_100) rfl) ?_
      show Goes _ _ _ _ T (mkF me_ 102 #[.val (.int p0), .val (.int p1), .val (.int p2), .val (.int p3), .val (.int v1), .val (.int v2), .val (.int v3), .val (.int v4), .val (.ref b5), .val (.int (2 : Int32)), .unset, .unset, .unset] [(.int v1), (.ref b36), (.ref b36)])
      have zle := S.le
      refine Goes.callI (argsL := [(.int v1)]) (rest := [(.ref b36)]) (W := 1) S B (rmI l Z aw hw b36 v1 _ n0 E_b36 F_b36_items F_b36_held F_b36_count g_b36 (own_bd hv1).1 (own_bd hv1).2) (w5 hw) (w6 hw) (w4 hw) (w7 hw) (by decide) rfl (by decide) (by decide) (by decide) (by decide) rfl (lenOf pd_0 rfl) rfl (Nat.le_of_eq rfl) at_102 ?_
      intro v T h S hQ
      obtain ⟨b37, b38, rfl, zb_b37, zb_b38, ne_b37__b38, Kc, E_b36', F_b36_items', F_b36_held', F_b36_count', A_b37', A_b38'⟩ := hQ
      have ne_b5__b37 : b5 ≠ b37 := Nat.ne_of_lt (Nat.lt_of_lt_of_le A_b5.lt zb_b37)
      have ne_b36__b37 : b36 ≠ b37 := Nat.ne_of_lt (Nat.lt_of_lt_of_le E_b36.lt zb_b37)
      have g_b37 : n0 ≤ b37 := Nat.le_trans zle zb_b37
      have ne_b5__b38 : b5 ≠ b38 := Nat.ne_of_lt (Nat.lt_of_lt_of_le A_b5.lt zb_b38)
      have ne_b36__b38 : b36 ≠ b38 := Nat.ne_of_lt (Nat.lt_of_lt_of_le E_b36.lt zb_b38)
      have g_b38 : n0 ≤ b38 := Nat.le_trans zle zb_b38
      replace A_b5 := A_b5.keep Kc (ninS ne_b5__b36 nin0)
      replace E_b36 := E_b36'
      replace F_b36_items := F_b36_items'
      replace F_b36_held := F_b36_held'
      replace F_b36_count := F_b36_count'
      have A_b37 := A_b37'
      have A_b38 := A_b38'
      show Goes _ _ _ _ T (mkF me_ 105 #[.val (.int p0), .val (.int p1), .val (.int p2), .val (.int p3), .val (.int v1), .val (.int v2), .val (.int v3), .val (.int v4), .val (.ref b5), .val (.int (2 : Int32)), .unset, .unset, .unset] [(.ref b36)])
      refine Goes.go (fun _ => XS.astore S.here B.x rfl (B.d at_105) rfl rfl (l' := #[.val (.int p0), .val (.int p1), .val (.int p2), .val (.int p3), .val (.int v1), .val (.int v2), .val (.int v3), .val (.int v4), .val (.ref b5), .val (.int (2 : Int32)), .val (.ref b36), .unset, .unset]) rfl) ?_
      show Goes _ _ _ _ T (mkF me_ 107 #[.val (.int p0), .val (.int p1), .val (.int p2), .val (.int p3), .val (.int v1), .val (.int v2), .val (.int v3), .val (.int v4), .val (.ref b5), .val (.int (2 : Int32)), .val (.ref b36), .unset, .unset] [])
      have hS : own_St v1.toNatClampNeg (fun _ => 0) (fun _ => 0) (0 : Int32) [] := own_St0
      refine Goes.go (fun _ => XS.aload S.here B.x rfl (B.d at_107) rfl rfl) ?_
      show Goes _ _ _ _ T (mkF me_ 109 #[.val (.int p0), .val (.int p1), .val (.int p2), .val (.int p3), .val (.int v1), .val (.int v2), .val (.int v3), .val (.int v4), .val (.ref b5), .val (.int (2 : Int32)), .val (.ref b36), .unset, .unset] [(.ref b36)])
      refine Goes.go (fun _ => XS.iload S.here B.x rfl (B.d at_109) rfl) ?_
      show Goes _ _ _ _ T (mkF me_ 111 #[.val (.int p0), .val (.int p1), .val (.int p2), .val (.int p3), .val (.int v1), .val (.int v2), .val (.int v3), .val (.int v4), .val (.ref b5), .val (.int (2 : Int32)), .val (.ref b36), .unset, .unset] [(.int v2), (.ref b36)])
      refine Goes.callV (argsL := [(.int v2)]) (rest := []) (W := 0) S B (rm_add l Z aw hw b36 v2 b37 b38 v1.toNatClampNeg (fun _ => 0) (fun _ => 0) (0 : Int32) _ n0 E_b36 F_b36_items F_b36_held F_b36_count A_b37 A_b38 g_b36 g_b37 g_b38 ne_b36__b37 ne_b36__b38 ne_b37__b38 rv2.1 rv2.2 (own_cn hS) (fun q => own_cl hS (own_cap0 hS rv2.1 rv2.2 (own_hz hS rv2.1 rv2.2 q)))) E_b36 (w16 hw) (w17 hw) (w19 hw) (w18 hw) (w4 hw) (w20 hw) (by decide) (by decide) (by decide) (by decide) (by decide) rfl (lenOf pd_0 rfl) rfl (Nat.le_of_eq rfl) at_111 ?_
      intro v T h S hQ
      obtain ⟨u39, u40, u41, rfl, Kc, E_b36', F_b36_items', F_b36_held', F_b36_count', A_b37', A_b38', hr_111⟩ := hQ
      replace A_b5 := A_b5.keep Kc (ninS ne_b5__b36 (ninS ne_b5__b37 (ninS ne_b5__b38 nin0)))
      replace E_b36 := E_b36'
      replace F_b36_items := F_b36_items'
      replace F_b36_held := F_b36_held'
      replace F_b36_count := F_b36_count'
      replace A_b37 := A_b37'
      replace A_b38 := A_b38'
      show Goes _ _ _ _ T (mkF me_ 114 #[.val (.int p0), .val (.int p1), .val (.int p2), .val (.int p3), .val (.int v1), .val (.int v2), .val (.int v3), .val (.int v4), .val (.ref b5), .val (.int (2 : Int32)), .val (.ref b36), .unset, .unset] [])
      replace hS := own_addN hS hr_111 rv2.1 rv2.2 (by simp) (own_cap0 hS rv2.1 rv2.2 (by simp)) (by simp)
      simp only [List.nil_append, List.cons_append] at hS
      refine Goes.go (fun _ => XS.aload S.here B.x rfl (B.d at_114) rfl rfl) ?_
      show Goes _ _ _ _ T (mkF me_ 116 #[.val (.int p0), .val (.int p1), .val (.int p2), .val (.int p3), .val (.int v1), .val (.int v2), .val (.int v3), .val (.int v4), .val (.ref b5), .val (.int (2 : Int32)), .val (.ref b36), .unset, .unset] [(.ref b36)])
      refine Goes.go (fun _ => XS.iload S.here B.x rfl (B.d at_116) rfl) ?_
      show Goes _ _ _ _ T (mkF me_ 118 #[.val (.int p0), .val (.int p1), .val (.int p2), .val (.int p3), .val (.int v1), .val (.int v2), .val (.int v3), .val (.int v4), .val (.ref b5), .val (.int (2 : Int32)), .val (.ref b36), .unset, .unset] [(.int v3), (.ref b36)])
      refine Goes.callV (argsL := [(.int v3)]) (rest := []) (W := 0) S B (rm_add l Z aw hw b36 v3 b37 b38 v1.toNatClampNeg u39 u40 u41 _ n0 E_b36 F_b36_items F_b36_held F_b36_count A_b37 A_b38 g_b36 g_b37 g_b38 ne_b36__b37 ne_b36__b38 ne_b37__b38 rv3.1 rv3.2 (own_cn hS) (fun q => own_cl hS (own_cap1 hS rv3.1 rv3.2 (own_hz hS rv3.1 rv3.2 q)))) E_b36 (w16 hw) (w17 hw) (w19 hw) (w18 hw) (w4 hw) (w20 hw) (by decide) (by decide) (by decide) (by decide) (by decide) rfl (lenOf pd_0 rfl) rfl (Nat.le_of_eq rfl) at_118 ?_
      intro v T h S hQ
      obtain ⟨u42, u43, u44, rfl, Kc, E_b36', F_b36_items', F_b36_held', F_b36_count', A_b37', A_b38', hr_118⟩ := hQ
      replace A_b5 := A_b5.keep Kc (ninS ne_b5__b36 (ninS ne_b5__b37 (ninS ne_b5__b38 nin0)))
      replace E_b36 := E_b36'
      replace F_b36_items := F_b36_items'
      replace F_b36_held := F_b36_held'
      replace F_b36_count := F_b36_count'
      replace A_b37 := A_b37'
      replace A_b38 := A_b38'
      show Goes _ _ _ _ T (mkF me_ 121 #[.val (.int p0), .val (.int p1), .val (.int p2), .val (.int p3), .val (.int v1), .val (.int v2), .val (.int v3), .val (.int v4), .val (.ref b5), .val (.int (2 : Int32)), .val (.ref b36), .unset, .unset] [])
      replace hS := own_addN hS hr_118 rv3.1 rv3.2 (by simp [hc53]) (own_cap1 hS rv3.1 rv3.2 (by simp [hc53])) (by simp)
      simp only [List.nil_append, List.cons_append] at hS
      refine Goes.go (fun _ => XS.aload S.here B.x rfl (B.d at_121) rfl rfl) ?_
      show Goes _ _ _ _ T (mkF me_ 123 #[.val (.int p0), .val (.int p1), .val (.int p2), .val (.int p3), .val (.int v1), .val (.int v2), .val (.int v3), .val (.int v4), .val (.ref b5), .val (.int (2 : Int32)), .val (.ref b36), .unset, .unset] [(.ref b36)])
      refine Goes.go (fun _ => XS.iload S.here B.x rfl (B.d at_123) rfl) ?_
      show Goes _ _ _ _ T (mkF me_ 125 #[.val (.int p0), .val (.int p1), .val (.int p2), .val (.int p3), .val (.int v1), .val (.int v2), .val (.int v3), .val (.int v4), .val (.ref b5), .val (.int (2 : Int32)), .val (.ref b36), .unset, .unset] [(.int v4), (.ref b36)])
      refine Goes.callV (argsL := [(.int v4)]) (rest := []) (W := 0) S B (rm_add l Z aw hw b36 v4 b37 b38 v1.toNatClampNeg u42 u43 u44 _ n0 E_b36 F_b36_items F_b36_held F_b36_count A_b37 A_b38 g_b36 g_b37 g_b38 ne_b36__b37 ne_b36__b38 ne_b37__b38 rv4.1 rv4.2 (own_cn hS) (fun q => own_cl hS (own_cap2 hS rv4.1 rv4.2 (own_hz hS rv4.1 rv4.2 q)))) E_b36 (w16 hw) (w17 hw) (w19 hw) (w18 hw) (w4 hw) (w20 hw) (by decide) (by decide) (by decide) (by decide) (by decide) rfl (lenOf pd_0 rfl) rfl (Nat.le_of_eq rfl) at_125 ?_
      intro v T h S hQ
      obtain ⟨u45, u46, u47, rfl, Kc, E_b36', F_b36_items', F_b36_held', F_b36_count', A_b37', A_b38', hr_125⟩ := hQ
      replace A_b5 := A_b5.keep Kc (ninS ne_b5__b36 (ninS ne_b5__b37 (ninS ne_b5__b38 nin0)))
      replace E_b36 := E_b36'
      replace F_b36_items := F_b36_items'
      replace F_b36_held := F_b36_held'
      replace F_b36_count := F_b36_count'
      replace A_b37 := A_b37'
      replace A_b38 := A_b38'
      show Goes _ _ _ _ T (mkF me_ 128 #[.val (.int p0), .val (.int p1), .val (.int p2), .val (.int p3), .val (.int v1), .val (.int v2), .val (.int v3), .val (.int v4), .val (.ref b5), .val (.int (2 : Int32)), .val (.ref b36), .unset, .unset] [])
      replace hS := own_addO hS hr_125 rv4.1 rv4.2 (by simp [hc73])
      refine Goes.go (fun _ => XS.aload S.here B.x rfl (B.d at_128) rfl rfl) ?_
      show Goes _ _ _ _ T (mkF me_ 130 #[.val (.int p0), .val (.int p1), .val (.int p2), .val (.int p3), .val (.int v1), .val (.int v2), .val (.int v3), .val (.int v4), .val (.ref b5), .val (.int (2 : Int32)), .val (.ref b36), .unset, .unset] [(.ref b36)])
      refine Goes.callV (argsL := []) (rest := []) (W := 0) S B (rm_take l Z aw hw b36 b37 b38 v1.toNatClampNeg u45 u46 u47 _ n0 E_b36 F_b36_items F_b36_held F_b36_count A_b37 A_b38 g_b36 g_b37 g_b38 ne_b36__b37 ne_b36__b38 ne_b37__b38 (own_tk (ys := [v2]) (t := v3) hS).1 (own_tk (ys := [v2]) (t := v3) hS).2.1 (own_tk (ys := [v2]) (t := v3) hS).2.2.1 (own_tk (ys := [v2]) (t := v3) hS).2.2.2) E_b36 (w23 hw) (w24 hw) (w26 hw) (w25 hw) (w4 hw) (w27 hw) (by decide) (by decide) (by decide) (by decide) (by decide) rfl (lenOf pd_1 rfl) rfl (Nat.le_of_eq rfl) at_130 ?_
      intro v T h S hQ
      obtain ⟨rfl, Kc, E_b36', F_b36_items', F_b36_held', F_b36_count', A_b37', A_b38'⟩ := hQ
      replace A_b5 := A_b5.keep Kc (ninS ne_b5__b36 (ninS ne_b5__b37 (ninS ne_b5__b38 nin0)))
      replace E_b36 := E_b36'
      replace F_b36_items := F_b36_items'
      replace F_b36_held := F_b36_held'
      replace F_b36_count := F_b36_count'
      replace A_b37 := A_b37'
      replace A_b38 := A_b38'
      show Goes _ _ _ _ T (mkF me_ 133 #[.val (.int p0), .val (.int p1), .val (.int p2), .val (.int p3), .val (.int v1), .val (.int v2), .val (.int v3), .val (.int v4), .val (.ref b5), .val (.int (2 : Int32)), .val (.ref b36), .unset, .unset] [(.int (u45 (u47 - (1 : Int32)).toNatClampNeg))])
      obtain ⟨ht, hS, htn⟩ := own_take (ys := [v2]) (t := v3) hS
      rw [show (u45 (u47 - (1 : Int32)).toNatClampNeg) = v3 from ht]
      show Goes _ _ _ _ T (mkF me_ 133 #[.val (.int p0), .val (.int p1), .val (.int p2), .val (.int p3), .val (.int v1), .val (.int v2), .val (.int v3), .val (.int v4), .val (.ref b5), .val (.int (2 : Int32)), .val (.ref b36), .unset, .unset] [(.int v3)])
      refine Goes.go (fun _ => XS.istore S.here B.x rfl (B.d at_133) rfl (l' := #[.val (.int p0), .val (.int p1), .val (.int p2), .val (.int p3), .val (.int v1), .val (.int v2), .val (.int v3), .val (.int v4), .val (.ref b5), .val (.int (2 : Int32)), .val (.ref b36), .val (.int v3), .unset]) rfl) ?_
      show Goes _ _ _ _ T (mkF me_ 135 #[.val (.int p0), .val (.int p1), .val (.int p2), .val (.int p3), .val (.int v1), .val (.int v2), .val (.int v3), .val (.int v4), .val (.ref b5), .val (.int (2 : Int32)), .val (.ref b36), .val (.int v3), .unset] [])
      refine Goes.go (fun _ => XS.iload S.here B.x rfl (B.d at_135) rfl) ?_
      show Goes _ _ _ _ T (mkF me_ 137 #[.val (.int p0), .val (.int p1), .val (.int p2), .val (.int p3), .val (.int v1), .val (.int v2), .val (.int v3), .val (.int v4), .val (.ref b5), .val (.int (2 : Int32)), .val (.ref b36), .val (.int v3), .unset] [(.int v3)])
      refine Goes.go (fun _ => XS.aload S.here B.x rfl (B.d at_137) rfl rfl) ?_
      show Goes _ _ _ _ T (mkF me_ 139 #[.val (.int p0), .val (.int p1), .val (.int p2), .val (.int p3), .val (.int v1), .val (.int v2), .val (.int v3), .val (.int v4), .val (.ref b5), .val (.int (2 : Int32)), .val (.ref b36), .val (.int v3), .unset] [(.ref b5), (.int v3)])
      refine Goes.go (fun _ => XS.iload S.here B.x rfl (B.d at_139) rfl) ?_
      show Goes _ _ _ _ T (mkF me_ 141 #[.val (.int p0), .val (.int p1), .val (.int p2), .val (.int p3), .val (.int v1), .val (.int v2), .val (.int v3), .val (.int v4), .val (.ref b5), .val (.int (2 : Int32)), .val (.ref b36), .val (.int v3), .unset] [(.int (2 : Int32)), (.ref b5), (.int v3)])
      refine Goes.go (fun _ => XS.iconst S.here B.x rfl (B.d at_141)) ?_
      show Goes _ _ _ _ T (mkF me_ 142 #[.val (.int p0), .val (.int p1), .val (.int p2), .val (.int p3), .val (.int v1), .val (.int v2), .val (.int v3), .val (.int v4), .val (.ref b5), .val (.int (2 : Int32)), .val (.ref b36), .val (.int v3), .unset] [(.int (1 : Int32)), (.int (2 : Int32)), (.ref b5), (.int v3)])
      refine Goes.go (fun _ => XS.isub S.here B.x rfl (B.d at_142) rfl) ?_
      show Goes _ _ _ _ T (mkF me_ 143 #[.val (.int p0), .val (.int p1), .val (.int p2), .val (.int p3), .val (.int v1), .val (.int v2), .val (.int v3), .val (.int v4), .val (.ref b5), .val (.int (2 : Int32)), .val (.ref b36), .val (.int v3), .unset] [(.int (1 : Int32)), (.ref b5), (.int v3)])
      refine Goes.iaload S B A_b5 (by decide) (by decide) at_143 (v := (.int v3)) rfl ?_
      show Goes _ _ _ _ T (mkF me_ 144 #[.val (.int p0), .val (.int p1), .val (.int p2), .val (.int p3), .val (.int v1), .val (.int v2), .val (.int v3), .val (.int v4), .val (.ref b5), .val (.int (2 : Int32)), .val (.ref b36), .val (.int v3), .unset] [(.int v3), (.int v3)])
      refine Goes.go (fun _ => XS.icmpNo S.here B.x rfl (B.d at_144) rfl (teq (rfl : v3 = v3)).2) ?_
      show Goes _ _ _ _ T (mkF me_ 147 #[.val (.int p0), .val (.int p1), .val (.int p2), .val (.int p3), .val (.int v1), .val (.int v2), .val (.int v3), .val (.int v4), .val (.ref b5), .val (.int (2 : Int32)), .val (.ref b36), .val (.int v3), .unset] [])
      refine Goes.go (fun _ => XS.aload S.here B.x rfl (B.d at_147) rfl rfl) ?_
      show Goes _ _ _ _ T (mkF me_ 149 #[.val (.int p0), .val (.int p1), .val (.int p2), .val (.int p3), .val (.int v1), .val (.int v2), .val (.int v3), .val (.int v4), .val (.ref b5), .val (.int (2 : Int32)), .val (.ref b36), .val (.int v3), .unset] [(.ref b36)])
      refine Goes.callV (argsL := []) (rest := []) (W := 0) S B (rm_size l Z aw hw b36 (u47 - (1 : Int32)) _ n0 F_b36_count) E_b36 (w28 hw) (w29 hw) (w31 hw) (w30 hw) (w4 hw) (w32 hw) (by decide) (by decide) (by decide) (by decide) (by decide) rfl (lenOf pd_1 rfl) rfl (Nat.le_of_eq rfl) at_149 ?_
      intro v T h S hQ
      obtain ⟨rfl, hh⟩ := hQ
      replace hh := hh.symm
      subst hh
      show Goes _ _ _ _ T (mkF me_ 152 #[.val (.int p0), .val (.int p1), .val (.int p2), .val (.int p3), .val (.int v1), .val (.int v2), .val (.int v3), .val (.int v4), .val (.ref b5), .val (.int (2 : Int32)), .val (.ref b36), .val (.int v3), .unset] [(.int (u47 - (1 : Int32)))])
      refine Goes.go (fun _ => XS.iload S.here B.x rfl (B.d at_152) rfl) ?_
      show Goes _ _ _ _ T (mkF me_ 154 #[.val (.int p0), .val (.int p1), .val (.int p2), .val (.int p3), .val (.int v1), .val (.int v2), .val (.int v3), .val (.int v4), .val (.ref b5), .val (.int (2 : Int32)), .val (.ref b36), .val (.int v3), .unset] [(.int (2 : Int32)), (.int (u47 - (1 : Int32)))])
      refine Goes.go (fun _ => XS.iconst S.here B.x rfl (B.d at_154)) ?_
      show Goes _ _ _ _ T (mkF me_ 155 #[.val (.int p0), .val (.int p1), .val (.int p2), .val (.int p3), .val (.int v1), .val (.int v2), .val (.int v3), .val (.int v4), .val (.ref b5), .val (.int (2 : Int32)), .val (.ref b36), .val (.int v3), .unset] [(.int (1 : Int32)), (.int (2 : Int32)), (.int (u47 - (1 : Int32)))])
      refine Goes.go (fun _ => XS.isub S.here B.x rfl (B.d at_155) rfl) ?_
      show Goes _ _ _ _ T (mkF me_ 156 #[.val (.int p0), .val (.int p1), .val (.int p2), .val (.int p3), .val (.int v1), .val (.int v2), .val (.int v3), .val (.int v4), .val (.ref b5), .val (.int (2 : Int32)), .val (.ref b36), .val (.int v3), .unset] [(.int (1 : Int32)), (.int (u47 - (1 : Int32)))])
      refine Goes.go (fun _ => XS.icmpNo S.here B.x rfl (B.d at_156) rfl (teq (show (u47 - (1 : Int32)) = (1 : Int32) from own_len hS)).2) ?_
      show Goes _ _ _ _ T (mkF me_ 159 #[.val (.int p0), .val (.int p1), .val (.int p2), .val (.int p3), .val (.int v1), .val (.int v2), .val (.int v3), .val (.int v4), .val (.ref b5), .val (.int (2 : Int32)), .val (.ref b36), .val (.int v3), .unset] [])
      refine Goes.go (fun _ => XS.iconst S.here B.x rfl (B.d at_159)) ?_
      show Goes _ _ _ _ T (mkF me_ 160 #[.val (.int p0), .val (.int p1), .val (.int p2), .val (.int p3), .val (.int v1), .val (.int v2), .val (.int v3), .val (.int v4), .val (.ref b5), .val (.int (2 : Int32)), .val (.ref b36), .val (.int v3), .unset] [(.int (1 : Int32))])
      refine Goes.go (fun _ => XS.goto S.here B.x rfl (pc0 := 160) (pc' := 164) rfl (B.d at_160) (by decide) (by decide)) ?_
      show Goes _ _ _ _ T (mkF me_ 164 #[.val (.int p0), .val (.int p1), .val (.int p2), .val (.int p3), .val (.int v1), .val (.int v2), .val (.int v3), .val (.int v4), .val (.ref b5), .val (.int (2 : Int32)), .val (.ref b36), .val (.int v3), .unset] [(.int (1 : Int32))])
      refine Goes.go (fun _ => XS.istore S.here B.x rfl (B.d at_164) rfl (l' := #[.val (.int p0), .val (.int p1), .val (.int p2), .val (.int p3), .val (.int v1), .val (.int v2), .val (.int v3), .val (.int v4), .val (.ref b5), .val (.int (2 : Int32)), .val (.ref b36), .val (.int v3), .val (.int (1 : Int32))]) rfl) ?_
      show Goes _ _ _ _ T (mkF me_ 166 #[.val (.int p0), .val (.int p1), .val (.int p2), .val (.int p3), .val (.int v1), .val (.int v2), .val (.int v3), .val (.int v4), .val (.ref b5), .val (.int (2 : Int32)), .val (.ref b36), .val (.int v3), .val (.int (1 : Int32))] [])
      refine Goes.go (fun _ => XS.iload S.here B.x rfl (B.d at_166) rfl) ?_
      show Goes _ _ _ _ T (mkF me_ 168 #[.val (.int p0), .val (.int p1), .val (.int p2), .val (.int p3), .val (.int v1), .val (.int v2), .val (.int v3), .val (.int v4), .val (.ref b5), .val (.int (2 : Int32)), .val (.ref b36), .val (.int v3), .val (.int (1 : Int32))] [(.int (2 : Int32))])
      refine Goes.go (fun _ => XS.iconst S.here B.x rfl (B.d at_168)) ?_
      show Goes _ _ _ _ T (mkF me_ 169 #[.val (.int p0), .val (.int p1), .val (.int p2), .val (.int p3), .val (.int v1), .val (.int v2), .val (.int v3), .val (.int v4), .val (.ref b5), .val (.int (2 : Int32)), .val (.ref b36), .val (.int v3), .val (.int (1 : Int32))] [(.int (2 : Int32)), (.int (2 : Int32))])
      refine Goes.go (fun _ => XS.icmpNo S.here B.x rfl (B.d at_169) rfl (by decide)) ?_
      show Goes _ _ _ _ T (mkF me_ 172 #[.val (.int p0), .val (.int p1), .val (.int p2), .val (.int p3), .val (.int v1), .val (.int v2), .val (.int v3), .val (.int v4), .val (.ref b5), .val (.int (2 : Int32)), .val (.ref b36), .val (.int v3), .val (.int (1 : Int32))] [])
      refine Goes.go (fun _ => XS.iload S.here B.x rfl (B.d at_172) rfl) ?_
      show Goes _ _ _ _ T (mkF me_ 174 #[.val (.int p0), .val (.int p1), .val (.int p2), .val (.int p3), .val (.int v1), .val (.int v2), .val (.int v3), .val (.int v4), .val (.ref b5), .val (.int (2 : Int32)), .val (.ref b36), .val (.int v3), .val (.int (1 : Int32))] [(.int (1 : Int32))])
      refine Goes.go (fun _ => XS.ifNo S.here B.x rfl (B.d at_174) rfl (by decide)) ?_
      show Goes _ _ _ _ T (mkF me_ 177 #[.val (.int p0), .val (.int p1), .val (.int p2), .val (.int p3), .val (.int v1), .val (.int v2), .val (.int v3), .val (.int v4), .val (.ref b5), .val (.int (2 : Int32)), .val (.ref b36), .val (.int v3), .val (.int (1 : Int32))] [])
      refine Goes.go (fun _ => XS.aload S.here B.x rfl (B.d at_177) rfl rfl) ?_
      show Goes _ _ _ _ T (mkF me_ 179 #[.val (.int p0), .val (.int p1), .val (.int p2), .val (.int p3), .val (.int v1), .val (.int v2), .val (.int v3), .val (.int v4), .val (.ref b5), .val (.int (2 : Int32)), .val (.ref b36), .val (.int v3), .val (.int (1 : Int32))] [(.ref b36)])
      refine Goes.go (fun _ => XS.iconst S.here B.x rfl (B.d at_179)) ?_
      show Goes _ _ _ _ T (mkF me_ 180 #[.val (.int p0), .val (.int p1), .val (.int p2), .val (.int p3), .val (.int v1), .val (.int v2), .val (.int v3), .val (.int v4), .val (.ref b5), .val (.int (2 : Int32)), .val (.ref b36), .val (.int v3), .val (.int (1 : Int32))] [(.int (0 : Int32)), (.ref b36)])
      refine Goes.callV (argsL := [(.int (0 : Int32))]) (rest := []) (W := 0) S B (rm_get l Z aw hw b36 (0 : Int32) b37 v1.toNatClampNeg u45 _ n0 F_b36_items A_b37 (by decide) (own_ix hS 0 (by decide) (by simp))) E_b36 (w33 hw) (w34 hw) (w36 hw) (w35 hw) (w4 hw) (w37 hw) (by decide) (by decide) (by decide) (by decide) (by decide) rfl (lenOf pd_2 rfl) rfl (Nat.le_of_eq rfl) at_180 ?_
      intro v T h S hQ
      obtain ⟨rfl, hh⟩ := hQ
      replace hh := hh.symm
      subst hh
      show Goes _ _ _ _ T (mkF me_ 183 #[.val (.int p0), .val (.int p1), .val (.int p2), .val (.int p3), .val (.int v1), .val (.int v2), .val (.int v3), .val (.int v4), .val (.ref b5), .val (.int (2 : Int32)), .val (.ref b36), .val (.int v3), .val (.int (1 : Int32))] [(.int (u45 (0 : Int32).toNatClampNeg))])
      refine Goes.go (fun _ => XS.aload S.here B.x rfl (B.d at_183) rfl rfl) ?_
      show Goes _ _ _ _ T (mkF me_ 185 #[.val (.int p0), .val (.int p1), .val (.int p2), .val (.int p3), .val (.int v1), .val (.int v2), .val (.int v3), .val (.int v4), .val (.ref b5), .val (.int (2 : Int32)), .val (.ref b36), .val (.int v3), .val (.int (1 : Int32))] [(.ref b5), (.int (u45 (0 : Int32).toNatClampNeg))])
      refine Goes.go (fun _ => XS.iconst S.here B.x rfl (B.d at_185)) ?_
      show Goes _ _ _ _ T (mkF me_ 186 #[.val (.int p0), .val (.int p1), .val (.int p2), .val (.int p3), .val (.int v1), .val (.int v2), .val (.int v3), .val (.int v4), .val (.ref b5), .val (.int (2 : Int32)), .val (.ref b36), .val (.int v3), .val (.int (1 : Int32))] [(.int (0 : Int32)), (.ref b5), (.int (u45 (0 : Int32).toNatClampNeg))])
      refine Goes.iaload S B A_b5 (by decide) (by decide) at_186 (v := (.int v2)) rfl ?_
      show Goes _ _ _ _ T (mkF me_ 187 #[.val (.int p0), .val (.int p1), .val (.int p2), .val (.int p3), .val (.int v1), .val (.int v2), .val (.int v3), .val (.int v4), .val (.ref b5), .val (.int (2 : Int32)), .val (.ref b36), .val (.int v3), .val (.int (1 : Int32))] [(.int v2), (.int (u45 (0 : Int32).toNatClampNeg))])
      refine Goes.go (fun _ => XS.icmpNo S.here B.x rfl (B.d at_187) rfl (teq (show (u45 (0 : Int32).toNatClampNeg) = v2 from own_get hS 0 rfl)).2) ?_
      show Goes _ _ _ _ T (mkF me_ 190 #[.val (.int p0), .val (.int p1), .val (.int p2), .val (.int p3), .val (.int v1), .val (.int v2), .val (.int v3), .val (.int v4), .val (.ref b5), .val (.int (2 : Int32)), .val (.ref b36), .val (.int v3), .val (.int (1 : Int32))] [])
      refine Goes.go (fun _ => XS.iconst S.here B.x rfl (B.d at_190)) ?_
      show Goes _ _ _ _ T (mkF me_ 191 #[.val (.int p0), .val (.int p1), .val (.int p2), .val (.int p3), .val (.int v1), .val (.int v2), .val (.int v3), .val (.int v4), .val (.ref b5), .val (.int (2 : Int32)), .val (.ref b36), .val (.int v3), .val (.int (1 : Int32))] [(.int (1 : Int32))])
      refine Goes.go (fun _ => XS.goto S.here B.x rfl (pc0 := 191) (pc' := 195) rfl (B.d at_191) (by decide) (by decide)) ?_
      show Goes _ _ _ _ T (mkF me_ 195 #[.val (.int p0), .val (.int p1), .val (.int p2), .val (.int p3), .val (.int v1), .val (.int v2), .val (.int v3), .val (.int v4), .val (.ref b5), .val (.int (2 : Int32)), .val (.ref b36), .val (.int v3), .val (.int (1 : Int32))] [(.int (1 : Int32))])
      refine Goes.go (fun _ => XS.istore S.here B.x rfl (B.d at_195) rfl (l' := #[.val (.int p0), .val (.int p1), .val (.int p2), .val (.int p3), .val (.int v1), .val (.int v2), .val (.int v3), .val (.int v4), .val (.ref b5), .val (.int (2 : Int32)), .val (.ref b36), .val (.int v3), .val (.int (1 : Int32))]) rfl) ?_
      show Goes _ _ _ _ T (mkF me_ 197 #[.val (.int p0), .val (.int p1), .val (.int p2), .val (.int p3), .val (.int v1), .val (.int v2), .val (.int v3), .val (.int v4), .val (.ref b5), .val (.int (2 : Int32)), .val (.ref b36), .val (.int v3), .val (.int (1 : Int32))] [])
      refine Goes.go (fun _ => XS.iload S.here B.x rfl (B.d at_197) rfl) ?_
      show Goes _ _ _ _ T (mkF me_ 199 #[.val (.int p0), .val (.int p1), .val (.int p2), .val (.int p3), .val (.int v1), .val (.int v2), .val (.int v3), .val (.int v4), .val (.ref b5), .val (.int (2 : Int32)), .val (.ref b36), .val (.int v3), .val (.int (1 : Int32))] [(.int (2 : Int32))])
      refine Goes.go (fun _ => XS.iconst S.here B.x rfl (B.d at_199)) ?_
      show Goes _ _ _ _ T (mkF me_ 200 #[.val (.int p0), .val (.int p1), .val (.int p2), .val (.int p3), .val (.int v1), .val (.int v2), .val (.int v3), .val (.int v4), .val (.ref b5), .val (.int (2 : Int32)), .val (.ref b36), .val (.int v3), .val (.int (1 : Int32))] [(.int (3 : Int32)), (.int (2 : Int32))])
      refine Goes.go (fun _ => XS.icmpYes S.here B.x rfl (pc0 := 200) (pc' := 228) rfl (B.d at_200) rfl (by decide) (by decide) (by decide)) ?_
      show Goes _ _ _ _ T (mkF me_ 228 #[.val (.int p0), .val (.int p1), .val (.int p2), .val (.int p3), .val (.int v1), .val (.int v2), .val (.int v3), .val (.int v4), .val (.ref b5), .val (.int (2 : Int32)), .val (.ref b36), .val (.int v3), .val (.int (1 : Int32))] [])
      refine Goes.go (fun _ => XS.aload S.here B.x rfl (B.d at_228) rfl rfl) ?_
      show Goes _ _ _ _ T (mkF me_ 230 #[.val (.int p0), .val (.int p1), .val (.int p2), .val (.int p3), .val (.int v1), .val (.int v2), .val (.int v3), .val (.int v4), .val (.ref b5), .val (.int (2 : Int32)), .val (.ref b36), .val (.int v3), .val (.int (1 : Int32))] [(.ref b36)])
      refine Goes.go (fun _ => XS.iload S.here B.x rfl (B.d at_230) rfl) ?_
      show Goes _ _ _ _ T (mkF me_ 232 #[.val (.int p0), .val (.int p1), .val (.int p2), .val (.int p3), .val (.int v1), .val (.int v2), .val (.int v3), .val (.int v4), .val (.ref b5), .val (.int (2 : Int32)), .val (.ref b36), .val (.int v3), .val (.int (1 : Int32))] [(.int v3), (.ref b36)])
      refine Goes.callV (argsL := [(.int v3)]) (rest := []) (W := 0) S B (rm_add l Z aw hw b36 v3 b37 b38 v1.toNatClampNeg u45 (aup u46 (u45 (u47 - (1 : Int32)).toNatClampNeg).toNatClampNeg 0) (u47 - (1 : Int32)) _ n0 E_b36 F_b36_items F_b36_held F_b36_count A_b37 A_b38 g_b36 g_b37 g_b38 ne_b36__b37 ne_b36__b38 ne_b37__b38 rv3.1 rv3.2 (own_cn hS) (fun q => own_cl hS (own_cap1 hS rv3.1 rv3.2 (own_hz hS rv3.1 rv3.2 q)))) E_b36 (w16 hw) (w17 hw) (w19 hw) (w18 hw) (w4 hw) (w20 hw) (by decide) (by decide) (by decide) (by decide) (by decide) rfl (lenOf pd_0 rfl) rfl (Nat.le_of_eq rfl) at_232 ?_
      intro v T h S hQ
      obtain ⟨u48, u49, u50, rfl, Kc, E_b36', F_b36_items', F_b36_held', F_b36_count', A_b37', A_b38', hr_232⟩ := hQ
      replace A_b5 := A_b5.keep Kc (ninS ne_b5__b36 (ninS ne_b5__b37 (ninS ne_b5__b38 nin0)))
      replace E_b36 := E_b36'
      replace F_b36_items := F_b36_items'
      replace F_b36_held := F_b36_held'
      replace F_b36_count := F_b36_count'
      replace A_b37 := A_b37'
      replace A_b38 := A_b38'
      show Goes _ _ _ _ T (mkF me_ 235 #[.val (.int p0), .val (.int p1), .val (.int p2), .val (.int p3), .val (.int v1), .val (.int v2), .val (.int v3), .val (.int v4), .val (.ref b5), .val (.int (2 : Int32)), .val (.ref b36), .val (.int v3), .val (.int (1 : Int32))] [])
      replace hS := own_addN hS hr_232 rv3.1 rv3.2 htn (own_cap1 hS rv3.1 rv3.2 htn) (by simp)
      simp only [List.nil_append, List.cons_append] at hS
      refine Goes.go (fun _ => XS.iload S.here B.x rfl (B.d at_235) rfl) ?_
      show Goes _ _ _ _ T (mkF me_ 237 #[.val (.int p0), .val (.int p1), .val (.int p2), .val (.int p3), .val (.int v1), .val (.int v2), .val (.int v3), .val (.int v4), .val (.ref b5), .val (.int (2 : Int32)), .val (.ref b36), .val (.int v3), .val (.int (1 : Int32))] [(.int (1 : Int32))])
      refine Goes.go (fun _ => XS.ifNo S.here B.x rfl (B.d at_237) rfl (by decide)) ?_
      show Goes _ _ _ _ T (mkF me_ 240 #[.val (.int p0), .val (.int p1), .val (.int p2), .val (.int p3), .val (.int v1), .val (.int v2), .val (.int v3), .val (.int v4), .val (.ref b5), .val (.int (2 : Int32)), .val (.ref b36), .val (.int v3), .val (.int (1 : Int32))] [])
      refine Goes.go (fun _ => XS.aload S.here B.x rfl (B.d at_240) rfl rfl) ?_
      show Goes _ _ _ _ T (mkF me_ 242 #[.val (.int p0), .val (.int p1), .val (.int p2), .val (.int p3), .val (.int v1), .val (.int v2), .val (.int v3), .val (.int v4), .val (.ref b5), .val (.int (2 : Int32)), .val (.ref b36), .val (.int v3), .val (.int (1 : Int32))] [(.ref b36)])
      refine Goes.callV (argsL := []) (rest := []) (W := 0) S B (rm_size l Z aw hw b36 u50 _ n0 F_b36_count) E_b36 (w28 hw) (w29 hw) (w31 hw) (w30 hw) (w4 hw) (w32 hw) (by decide) (by decide) (by decide) (by decide) (by decide) rfl (lenOf pd_1 rfl) rfl (Nat.le_of_eq rfl) at_242 ?_
      intro v T h S hQ
      obtain ⟨rfl, hh⟩ := hQ
      replace hh := hh.symm
      subst hh
      show Goes _ _ _ _ T (mkF me_ 245 #[.val (.int p0), .val (.int p1), .val (.int p2), .val (.int p3), .val (.int v1), .val (.int v2), .val (.int v3), .val (.int v4), .val (.ref b5), .val (.int (2 : Int32)), .val (.ref b36), .val (.int v3), .val (.int (1 : Int32))] [(.int u50)])
      refine Goes.go (fun _ => XS.iload S.here B.x rfl (B.d at_245) rfl) ?_
      show Goes _ _ _ _ T (mkF me_ 247 #[.val (.int p0), .val (.int p1), .val (.int p2), .val (.int p3), .val (.int v1), .val (.int v2), .val (.int v3), .val (.int v4), .val (.ref b5), .val (.int (2 : Int32)), .val (.ref b36), .val (.int v3), .val (.int (1 : Int32))] [(.int (2 : Int32)), (.int u50)])
      refine Goes.go (fun _ => XS.icmpNo S.here B.x rfl (B.d at_247) rfl (teq (show u50 = (2 : Int32) from own_len hS)).2) ?_
      show Goes _ _ _ _ T (mkF me_ 250 #[.val (.int p0), .val (.int p1), .val (.int p2), .val (.int p3), .val (.int v1), .val (.int v2), .val (.int v3), .val (.int v4), .val (.ref b5), .val (.int (2 : Int32)), .val (.ref b36), .val (.int v3), .val (.int (1 : Int32))] [])
      refine Goes.go (fun _ => XS.aload S.here B.x rfl (B.d at_250) rfl rfl) ?_
      show Goes _ _ _ _ T (mkF me_ 252 #[.val (.int p0), .val (.int p1), .val (.int p2), .val (.int p3), .val (.int v1), .val (.int v2), .val (.int v3), .val (.int v4), .val (.ref b5), .val (.int (2 : Int32)), .val (.ref b36), .val (.int v3), .val (.int (1 : Int32))] [(.ref b36)])
      refine Goes.go (fun _ => XS.iload S.here B.x rfl (B.d at_252) rfl) ?_
      show Goes _ _ _ _ T (mkF me_ 254 #[.val (.int p0), .val (.int p1), .val (.int p2), .val (.int p3), .val (.int v1), .val (.int v2), .val (.int v3), .val (.int v4), .val (.ref b5), .val (.int (2 : Int32)), .val (.ref b36), .val (.int v3), .val (.int (1 : Int32))] [(.int (2 : Int32)), (.ref b36)])
      refine Goes.go (fun _ => XS.iconst S.here B.x rfl (B.d at_254)) ?_
      show Goes _ _ _ _ T (mkF me_ 255 #[.val (.int p0), .val (.int p1), .val (.int p2), .val (.int p3), .val (.int v1), .val (.int v2), .val (.int v3), .val (.int v4), .val (.ref b5), .val (.int (2 : Int32)), .val (.ref b36), .val (.int v3), .val (.int (1 : Int32))] [(.int (1 : Int32)), (.int (2 : Int32)), (.ref b36)])
      refine Goes.go (fun _ => XS.isub S.here B.x rfl (B.d at_255) rfl) ?_
      show Goes _ _ _ _ T (mkF me_ 256 #[.val (.int p0), .val (.int p1), .val (.int p2), .val (.int p3), .val (.int v1), .val (.int v2), .val (.int v3), .val (.int v4), .val (.ref b5), .val (.int (2 : Int32)), .val (.ref b36), .val (.int v3), .val (.int (1 : Int32))] [(.int (1 : Int32)), (.ref b36)])
      refine Goes.callV (argsL := [(.int (1 : Int32))]) (rest := []) (W := 0) S B (rm_get l Z aw hw b36 (1 : Int32) b37 v1.toNatClampNeg u48 _ n0 F_b36_items A_b37 (by decide) (own_ix hS 1 (by decide) (by simp))) E_b36 (w33 hw) (w34 hw) (w36 hw) (w35 hw) (w4 hw) (w37 hw) (by decide) (by decide) (by decide) (by decide) (by decide) rfl (lenOf pd_2 rfl) rfl (Nat.le_of_eq rfl) at_256 ?_
      intro v T h S hQ
      obtain ⟨rfl, hh⟩ := hQ
      replace hh := hh.symm
      subst hh
      show Goes _ _ _ _ T (mkF me_ 259 #[.val (.int p0), .val (.int p1), .val (.int p2), .val (.int p3), .val (.int v1), .val (.int v2), .val (.int v3), .val (.int v4), .val (.ref b5), .val (.int (2 : Int32)), .val (.ref b36), .val (.int v3), .val (.int (1 : Int32))] [(.int (u48 (1 : Int32).toNatClampNeg))])
      refine Goes.go (fun _ => XS.iload S.here B.x rfl (B.d at_259) rfl) ?_
      show Goes _ _ _ _ T (mkF me_ 261 #[.val (.int p0), .val (.int p1), .val (.int p2), .val (.int p3), .val (.int v1), .val (.int v2), .val (.int v3), .val (.int v4), .val (.ref b5), .val (.int (2 : Int32)), .val (.ref b36), .val (.int v3), .val (.int (1 : Int32))] [(.int v3), (.int (u48 (1 : Int32).toNatClampNeg))])
      refine Goes.go (fun _ => XS.icmpNo S.here B.x rfl (B.d at_261) rfl (teq (show (u48 (1 : Int32).toNatClampNeg) = v3 from own_get hS 1 rfl)).2) ?_
      show Goes _ _ _ _ T (mkF me_ 264 #[.val (.int p0), .val (.int p1), .val (.int p2), .val (.int p3), .val (.int v1), .val (.int v2), .val (.int v3), .val (.int v4), .val (.ref b5), .val (.int (2 : Int32)), .val (.ref b36), .val (.int v3), .val (.int (1 : Int32))] [])
      refine Goes.go (fun _ => XS.iconst S.here B.x rfl (B.d at_264)) ?_
      show Goes _ _ _ _ T (mkF me_ 265 #[.val (.int p0), .val (.int p1), .val (.int p2), .val (.int p3), .val (.int v1), .val (.int v2), .val (.int v3), .val (.int v4), .val (.ref b5), .val (.int (2 : Int32)), .val (.ref b36), .val (.int v3), .val (.int (1 : Int32))] [(.int (1 : Int32))])
      refine Goes.go (fun _ => XS.goto S.here B.x rfl (pc0 := 265) (pc' := 269) rfl (B.d at_265) (by decide) (by decide)) ?_
      show Goes _ _ _ _ T (mkF me_ 269 #[.val (.int p0), .val (.int p1), .val (.int p2), .val (.int p3), .val (.int v1), .val (.int v2), .val (.int v3), .val (.int v4), .val (.ref b5), .val (.int (2 : Int32)), .val (.ref b36), .val (.int v3), .val (.int (1 : Int32))] [(.int (1 : Int32))])
      refine Goes.go (fun _ => XS.istore S.here B.x rfl (B.d at_269) rfl (l' := #[.val (.int p0), .val (.int p1), .val (.int p2), .val (.int p3), .val (.int v1), .val (.int v2), .val (.int v3), .val (.int v4), .val (.ref b5), .val (.int (2 : Int32)), .val (.ref b36), .val (.int v3), .val (.int (1 : Int32))]) rfl) ?_
      show Goes _ _ _ _ T (mkF me_ 271 #[.val (.int p0), .val (.int p1), .val (.int p2), .val (.int p3), .val (.int v1), .val (.int v2), .val (.int v3), .val (.int v4), .val (.ref b5), .val (.int (2 : Int32)), .val (.ref b36), .val (.int v3), .val (.int (1 : Int32))] [])
      refine Goes.go (fun _ => XS.iload S.here B.x rfl (B.d at_271) rfl) ?_
      show Goes _ _ _ _ T (mkF me_ 273 #[.val (.int p0), .val (.int p1), .val (.int p2), .val (.int p3), .val (.int v1), .val (.int v2), .val (.int v3), .val (.int v4), .val (.ref b5), .val (.int (2 : Int32)), .val (.ref b36), .val (.int v3), .val (.int (1 : Int32))] [(.int (1 : Int32))])
      refine Goes.retN S B (by simp) at_273 (by decide) (by decide) ?_
      exact rfl
    · skip
      refine Goes.go (fun _ => XS.icmpNo S.here B.x rfl (B.d at_73) rfl (feq hc73).1) ?_
      show Goes _ _ _ _ T (mkF me_ 76 #[.val (.int p0), .val (.int p1), .val (.int p2), .val (.int p3), .val (.int v1), .val (.int v2), .val (.int v3), .val (.int v4), .val (.ref b5), .val (.int (2 : Int32)), .unset, .unset, .unset] [])
      refine Goes.go (fun _ => XS.iload S.here B.x rfl (B.d at_76) rfl) ?_
      show Goes _ _ _ _ T (mkF me_ 78 #[.val (.int p0), .val (.int p1), .val (.int p2), .val (.int p3), .val (.int v1), .val (.int v2), .val (.int v3), .val (.int v4), .val (.ref b5), .val (.int (2 : Int32)), .unset, .unset, .unset] [(.int v4)])
      refine Goes.go (fun _ => XS.iload S.here B.x rfl (B.d at_78) rfl) ?_
      show Goes _ _ _ _ T (mkF me_ 80 #[.val (.int p0), .val (.int p1), .val (.int p2), .val (.int p3), .val (.int v1), .val (.int v2), .val (.int v3), .val (.int v4), .val (.ref b5), .val (.int (2 : Int32)), .unset, .unset, .unset] [(.int v3), (.int v4)])
      by_cases hc80 : v4 = v3
      · skip
        refine Goes.go (fun _ => XS.icmpYes S.here B.x rfl (pc0 := 80) (pc' := 96) rfl (B.d at_80) rfl (teq hc80).1 (by decide) (by decide)) ?_
        show Goes _ _ _ _ T (mkF me_ 96 #[.val (.int p0), .val (.int p1), .val (.int p2), .val (.int p3), .val (.int v1), .val (.int v2), .val (.int v3), .val (.int v4), .val (.ref b5), .val (.int (2 : Int32)), .unset, .unset, .unset] [])
        refine Goes.newO S B (w2 hw) (w3 hw) (w4 hw) at_96 (by decide) (by decide) ?_
        intro T h b51 S X zb g_b51 E_b51 D
        have ne_b5__b51 : b5 ≠ b51 := Nat.ne_of_lt (Nat.lt_of_lt_of_le A_b5.lt (Nat.le_of_eq zb.symm))
        replace A_b5 := A_b5.ext X
        have F_b51_items : Fld Z h b51 "com/example/holdfast/holdfast/IndexStack" "items" "[I" .null := D (Or.inr (w12 hw)) (ty := (.array .int)) (by decide)
        have F_b51_held : Fld Z h b51 "com/example/holdfast/holdfast/IndexStack" "held" "[Z" .null := D (Or.inr (w15 hw)) (ty := (.array .boolean)) (by decide)
        have F_b51_count : Fld Z h b51 "com/example/holdfast/holdfast/IndexStack" "count" "I" (.int (0 : Int32)) := D (Or.inl (w22 hw)) (ty := .int) (by decide)
        show Goes _ _ _ _ T (mkF me_ 99 #[.val (.int p0), .val (.int p1), .val (.int p2), .val (.int p3), .val (.int v1), .val (.int v2), .val (.int v3), .val (.int v4), .val (.ref b5), .val (.int (2 : Int32)), .unset, .unset, .unset] [(.ref b51)])
        refine Goes.go (fun _ => XS.dup S.here B.x rfl (B.d at_99) rfl rfl) ?_
        show Goes _ _ _ _ T (mkF me_ 100 #[.val (.int p0), .val (.int p1), .val (.int p2), .val (.int p3), .val (.int v1), .val (.int v2), .val (.int v3), .val (.int v4), .val (.ref b5), .val (.int (2 : Int32)), .unset, .unset, .unset] [(.ref b51), (.ref b51)])
        refine Goes.go (fun _ => XS.iload S.here B.x rfl (B.d at_100) rfl) ?_
        show Goes _ _ _ _ T (mkF me_ 102 #[.val (.int p0), .val (.int p1), .val (.int p2), .val (.int p3), .val (.int v1), .val (.int v2), .val (.int v3), .val (.int v4), .val (.ref b5), .val (.int (2 : Int32)), .unset, .unset, .unset] [(.int v1), (.ref b51), (.ref b51)])
        have zle := S.le
        refine Goes.callI (argsL := [(.int v1)]) (rest := [(.ref b51)]) (W := 1) S B (rmI l Z aw hw b51 v1 _ n0 E_b51 F_b51_items F_b51_held F_b51_count g_b51 (own_bd hv1).1 (own_bd hv1).2) (w5 hw) (w6 hw) (w4 hw) (w7 hw) (by decide) rfl (by decide) (by decide) (by decide) (by decide) rfl (lenOf pd_0 rfl) rfl (Nat.le_of_eq rfl) at_102 ?_
        intro v T h S hQ
        obtain ⟨b52, b53, rfl, zb_b52, zb_b53, ne_b52__b53, Kc, E_b51', F_b51_items', F_b51_held', F_b51_count', A_b52', A_b53'⟩ := hQ
        have ne_b5__b52 : b5 ≠ b52 := Nat.ne_of_lt (Nat.lt_of_lt_of_le A_b5.lt zb_b52)
        have ne_b51__b52 : b51 ≠ b52 := Nat.ne_of_lt (Nat.lt_of_lt_of_le E_b51.lt zb_b52)
        have g_b52 : n0 ≤ b52 := Nat.le_trans zle zb_b52
        have ne_b5__b53 : b5 ≠ b53 := Nat.ne_of_lt (Nat.lt_of_lt_of_le A_b5.lt zb_b53)
        have ne_b51__b53 : b51 ≠ b53 := Nat.ne_of_lt (Nat.lt_of_lt_of_le E_b51.lt zb_b53)
        have g_b53 : n0 ≤ b53 := Nat.le_trans zle zb_b53
        replace A_b5 := A_b5.keep Kc (ninS ne_b5__b51 nin0)
        replace E_b51 := E_b51'
        replace F_b51_items := F_b51_items'
        replace F_b51_held := F_b51_held'
        replace F_b51_count := F_b51_count'
        have A_b52 := A_b52'
        have A_b53 := A_b53'
        show Goes _ _ _ _ T (mkF me_ 105 #[.val (.int p0), .val (.int p1), .val (.int p2), .val (.int p3), .val (.int v1), .val (.int v2), .val (.int v3), .val (.int v4), .val (.ref b5), .val (.int (2 : Int32)), .unset, .unset, .unset] [(.ref b51)])
        refine Goes.go (fun _ => XS.astore S.here B.x rfl (B.d at_105) rfl rfl (l' := #[.val (.int p0), .val (.int p1), .val (.int p2), .val (.int p3), .val (.int v1), .val (.int v2), .val (.int v3), .val (.int v4), .val (.ref b5), .val (.int (2 : Int32)), .val (.ref b51), .unset, .unset]) rfl) ?_
        show Goes _ _ _ _ T (mkF me_ 107 #[.val (.int p0), .val (.int p1), .val (.int p2), .val (.int p3), .val (.int v1), .val (.int v2), .val (.int v3), .val (.int v4), .val (.ref b5), .val (.int (2 : Int32)), .val (.ref b51), .unset, .unset] [])
        have hS : own_St v1.toNatClampNeg (fun _ => 0) (fun _ => 0) (0 : Int32) [] := own_St0
        refine Goes.go (fun _ => XS.aload S.here B.x rfl (B.d at_107) rfl rfl) ?_
        show Goes _ _ _ _ T (mkF me_ 109 #[.val (.int p0), .val (.int p1), .val (.int p2), .val (.int p3), .val (.int v1), .val (.int v2), .val (.int v3), .val (.int v4), .val (.ref b5), .val (.int (2 : Int32)), .val (.ref b51), .unset, .unset] [(.ref b51)])
        refine Goes.go (fun _ => XS.iload S.here B.x rfl (B.d at_109) rfl) ?_
        show Goes _ _ _ _ T (mkF me_ 111 #[.val (.int p0), .val (.int p1), .val (.int p2), .val (.int p3), .val (.int v1), .val (.int v2), .val (.int v3), .val (.int v4), .val (.ref b5), .val (.int (2 : Int32)), .val (.ref b51), .unset, .unset] [(.int v2), (.ref b51)])
        refine Goes.callV (argsL := [(.int v2)]) (rest := []) (W := 0) S B (rm_add l Z aw hw b51 v2 b52 b53 v1.toNatClampNeg (fun _ => 0) (fun _ => 0) (0 : Int32) _ n0 E_b51 F_b51_items F_b51_held F_b51_count A_b52 A_b53 g_b51 g_b52 g_b53 ne_b51__b52 ne_b51__b53 ne_b52__b53 rv2.1 rv2.2 (own_cn hS) (fun q => own_cl hS (own_cap0 hS rv2.1 rv2.2 (own_hz hS rv2.1 rv2.2 q)))) E_b51 (w16 hw) (w17 hw) (w19 hw) (w18 hw) (w4 hw) (w20 hw) (by decide) (by decide) (by decide) (by decide) (by decide) rfl (lenOf pd_0 rfl) rfl (Nat.le_of_eq rfl) at_111 ?_
        intro v T h S hQ
        obtain ⟨u54, u55, u56, rfl, Kc, E_b51', F_b51_items', F_b51_held', F_b51_count', A_b52', A_b53', hr_111⟩ := hQ
        replace A_b5 := A_b5.keep Kc (ninS ne_b5__b51 (ninS ne_b5__b52 (ninS ne_b5__b53 nin0)))
        replace E_b51 := E_b51'
        replace F_b51_items := F_b51_items'
        replace F_b51_held := F_b51_held'
        replace F_b51_count := F_b51_count'
        replace A_b52 := A_b52'
        replace A_b53 := A_b53'
        show Goes _ _ _ _ T (mkF me_ 114 #[.val (.int p0), .val (.int p1), .val (.int p2), .val (.int p3), .val (.int v1), .val (.int v2), .val (.int v3), .val (.int v4), .val (.ref b5), .val (.int (2 : Int32)), .val (.ref b51), .unset, .unset] [])
        replace hS := own_addN hS hr_111 rv2.1 rv2.2 (by simp) (own_cap0 hS rv2.1 rv2.2 (by simp)) (by simp)
        simp only [List.nil_append, List.cons_append] at hS
        refine Goes.go (fun _ => XS.aload S.here B.x rfl (B.d at_114) rfl rfl) ?_
        show Goes _ _ _ _ T (mkF me_ 116 #[.val (.int p0), .val (.int p1), .val (.int p2), .val (.int p3), .val (.int v1), .val (.int v2), .val (.int v3), .val (.int v4), .val (.ref b5), .val (.int (2 : Int32)), .val (.ref b51), .unset, .unset] [(.ref b51)])
        refine Goes.go (fun _ => XS.iload S.here B.x rfl (B.d at_116) rfl) ?_
        show Goes _ _ _ _ T (mkF me_ 118 #[.val (.int p0), .val (.int p1), .val (.int p2), .val (.int p3), .val (.int v1), .val (.int v2), .val (.int v3), .val (.int v4), .val (.ref b5), .val (.int (2 : Int32)), .val (.ref b51), .unset, .unset] [(.int v3), (.ref b51)])
        refine Goes.callV (argsL := [(.int v3)]) (rest := []) (W := 0) S B (rm_add l Z aw hw b51 v3 b52 b53 v1.toNatClampNeg u54 u55 u56 _ n0 E_b51 F_b51_items F_b51_held F_b51_count A_b52 A_b53 g_b51 g_b52 g_b53 ne_b51__b52 ne_b51__b53 ne_b52__b53 rv3.1 rv3.2 (own_cn hS) (fun q => own_cl hS (own_cap1 hS rv3.1 rv3.2 (own_hz hS rv3.1 rv3.2 q)))) E_b51 (w16 hw) (w17 hw) (w19 hw) (w18 hw) (w4 hw) (w20 hw) (by decide) (by decide) (by decide) (by decide) (by decide) rfl (lenOf pd_0 rfl) rfl (Nat.le_of_eq rfl) at_118 ?_
        intro v T h S hQ
        obtain ⟨u57, u58, u59, rfl, Kc, E_b51', F_b51_items', F_b51_held', F_b51_count', A_b52', A_b53', hr_118⟩ := hQ
        replace A_b5 := A_b5.keep Kc (ninS ne_b5__b51 (ninS ne_b5__b52 (ninS ne_b5__b53 nin0)))
        replace E_b51 := E_b51'
        replace F_b51_items := F_b51_items'
        replace F_b51_held := F_b51_held'
        replace F_b51_count := F_b51_count'
        replace A_b52 := A_b52'
        replace A_b53 := A_b53'
        show Goes _ _ _ _ T (mkF me_ 121 #[.val (.int p0), .val (.int p1), .val (.int p2), .val (.int p3), .val (.int v1), .val (.int v2), .val (.int v3), .val (.int v4), .val (.ref b5), .val (.int (2 : Int32)), .val (.ref b51), .unset, .unset] [])
        replace hS := own_addN hS hr_118 rv3.1 rv3.2 (by simp [hc53]) (own_cap1 hS rv3.1 rv3.2 (by simp [hc53])) (by simp)
        simp only [List.nil_append, List.cons_append] at hS
        refine Goes.go (fun _ => XS.aload S.here B.x rfl (B.d at_121) rfl rfl) ?_
        show Goes _ _ _ _ T (mkF me_ 123 #[.val (.int p0), .val (.int p1), .val (.int p2), .val (.int p3), .val (.int v1), .val (.int v2), .val (.int v3), .val (.int v4), .val (.ref b5), .val (.int (2 : Int32)), .val (.ref b51), .unset, .unset] [(.ref b51)])
        refine Goes.go (fun _ => XS.iload S.here B.x rfl (B.d at_123) rfl) ?_
        show Goes _ _ _ _ T (mkF me_ 125 #[.val (.int p0), .val (.int p1), .val (.int p2), .val (.int p3), .val (.int v1), .val (.int v2), .val (.int v3), .val (.int v4), .val (.ref b5), .val (.int (2 : Int32)), .val (.ref b51), .unset, .unset] [(.int v4), (.ref b51)])
        refine Goes.callV (argsL := [(.int v4)]) (rest := []) (W := 0) S B (rm_add l Z aw hw b51 v4 b52 b53 v1.toNatClampNeg u57 u58 u59 _ n0 E_b51 F_b51_items F_b51_held F_b51_count A_b52 A_b53 g_b51 g_b52 g_b53 ne_b51__b52 ne_b51__b53 ne_b52__b53 rv4.1 rv4.2 (own_cn hS) (fun q => own_cl hS (own_cap2 hS rv4.1 rv4.2 (own_hz hS rv4.1 rv4.2 q)))) E_b51 (w16 hw) (w17 hw) (w19 hw) (w18 hw) (w4 hw) (w20 hw) (by decide) (by decide) (by decide) (by decide) (by decide) rfl (lenOf pd_0 rfl) rfl (Nat.le_of_eq rfl) at_125 ?_
        intro v T h S hQ
        obtain ⟨u60, u61, u62, rfl, Kc, E_b51', F_b51_items', F_b51_held', F_b51_count', A_b52', A_b53', hr_125⟩ := hQ
        replace A_b5 := A_b5.keep Kc (ninS ne_b5__b51 (ninS ne_b5__b52 (ninS ne_b5__b53 nin0)))
        replace E_b51 := E_b51'
        replace F_b51_items := F_b51_items'
        replace F_b51_held := F_b51_held'
        replace F_b51_count := F_b51_count'
        replace A_b52 := A_b52'
        replace A_b53 := A_b53'
        show Goes _ _ _ _ T (mkF me_ 128 #[.val (.int p0), .val (.int p1), .val (.int p2), .val (.int p3), .val (.int v1), .val (.int v2), .val (.int v3), .val (.int v4), .val (.ref b5), .val (.int (2 : Int32)), .val (.ref b51), .unset, .unset] [])
        replace hS := own_addO hS hr_125 rv4.1 rv4.2 (by simp [hc80])
        refine Goes.go (fun _ => XS.aload S.here B.x rfl (B.d at_128) rfl rfl) ?_
        show Goes _ _ _ _ T (mkF me_ 130 #[.val (.int p0), .val (.int p1), .val (.int p2), .val (.int p3), .val (.int v1), .val (.int v2), .val (.int v3), .val (.int v4), .val (.ref b5), .val (.int (2 : Int32)), .val (.ref b51), .unset, .unset] [(.ref b51)])
        refine Goes.callV (argsL := []) (rest := []) (W := 0) S B (rm_take l Z aw hw b51 b52 b53 v1.toNatClampNeg u60 u61 u62 _ n0 E_b51 F_b51_items F_b51_held F_b51_count A_b52 A_b53 g_b51 g_b52 g_b53 ne_b51__b52 ne_b51__b53 ne_b52__b53 (own_tk (ys := [v2]) (t := v3) hS).1 (own_tk (ys := [v2]) (t := v3) hS).2.1 (own_tk (ys := [v2]) (t := v3) hS).2.2.1 (own_tk (ys := [v2]) (t := v3) hS).2.2.2) E_b51 (w23 hw) (w24 hw) (w26 hw) (w25 hw) (w4 hw) (w27 hw) (by decide) (by decide) (by decide) (by decide) (by decide) rfl (lenOf pd_1 rfl) rfl (Nat.le_of_eq rfl) at_130 ?_
        intro v T h S hQ
        obtain ⟨rfl, Kc, E_b51', F_b51_items', F_b51_held', F_b51_count', A_b52', A_b53'⟩ := hQ
        replace A_b5 := A_b5.keep Kc (ninS ne_b5__b51 (ninS ne_b5__b52 (ninS ne_b5__b53 nin0)))
        replace E_b51 := E_b51'
        replace F_b51_items := F_b51_items'
        replace F_b51_held := F_b51_held'
        replace F_b51_count := F_b51_count'
        replace A_b52 := A_b52'
        replace A_b53 := A_b53'
        show Goes _ _ _ _ T (mkF me_ 133 #[.val (.int p0), .val (.int p1), .val (.int p2), .val (.int p3), .val (.int v1), .val (.int v2), .val (.int v3), .val (.int v4), .val (.ref b5), .val (.int (2 : Int32)), .val (.ref b51), .unset, .unset] [(.int (u60 (u62 - (1 : Int32)).toNatClampNeg))])
        obtain ⟨ht, hS, htn⟩ := own_take (ys := [v2]) (t := v3) hS
        rw [show (u60 (u62 - (1 : Int32)).toNatClampNeg) = v3 from ht]
        show Goes _ _ _ _ T (mkF me_ 133 #[.val (.int p0), .val (.int p1), .val (.int p2), .val (.int p3), .val (.int v1), .val (.int v2), .val (.int v3), .val (.int v4), .val (.ref b5), .val (.int (2 : Int32)), .val (.ref b51), .unset, .unset] [(.int v3)])
        refine Goes.go (fun _ => XS.istore S.here B.x rfl (B.d at_133) rfl (l' := #[.val (.int p0), .val (.int p1), .val (.int p2), .val (.int p3), .val (.int v1), .val (.int v2), .val (.int v3), .val (.int v4), .val (.ref b5), .val (.int (2 : Int32)), .val (.ref b51), .val (.int v3), .unset]) rfl) ?_
        show Goes _ _ _ _ T (mkF me_ 135 #[.val (.int p0), .val (.int p1), .val (.int p2), .val (.int p3), .val (.int v1), .val (.int v2), .val (.int v3), .val (.int v4), .val (.ref b5), .val (.int (2 : Int32)), .val (.ref b51), .val (.int v3), .unset] [])
        refine Goes.go (fun _ => XS.iload S.here B.x rfl (B.d at_135) rfl) ?_
        show Goes _ _ _ _ T (mkF me_ 137 #[.val (.int p0), .val (.int p1), .val (.int p2), .val (.int p3), .val (.int v1), .val (.int v2), .val (.int v3), .val (.int v4), .val (.ref b5), .val (.int (2 : Int32)), .val (.ref b51), .val (.int v3), .unset] [(.int v3)])
        refine Goes.go (fun _ => XS.aload S.here B.x rfl (B.d at_137) rfl rfl) ?_
        show Goes _ _ _ _ T (mkF me_ 139 #[.val (.int p0), .val (.int p1), .val (.int p2), .val (.int p3), .val (.int v1), .val (.int v2), .val (.int v3), .val (.int v4), .val (.ref b5), .val (.int (2 : Int32)), .val (.ref b51), .val (.int v3), .unset] [(.ref b5), (.int v3)])
        refine Goes.go (fun _ => XS.iload S.here B.x rfl (B.d at_139) rfl) ?_
        show Goes _ _ _ _ T (mkF me_ 141 #[.val (.int p0), .val (.int p1), .val (.int p2), .val (.int p3), .val (.int v1), .val (.int v2), .val (.int v3), .val (.int v4), .val (.ref b5), .val (.int (2 : Int32)), .val (.ref b51), .val (.int v3), .unset] [(.int (2 : Int32)), (.ref b5), (.int v3)])
        refine Goes.go (fun _ => XS.iconst S.here B.x rfl (B.d at_141)) ?_
        show Goes _ _ _ _ T (mkF me_ 142 #[.val (.int p0), .val (.int p1), .val (.int p2), .val (.int p3), .val (.int v1), .val (.int v2), .val (.int v3), .val (.int v4), .val (.ref b5), .val (.int (2 : Int32)), .val (.ref b51), .val (.int v3), .unset] [(.int (1 : Int32)), (.int (2 : Int32)), (.ref b5), (.int v3)])
        refine Goes.go (fun _ => XS.isub S.here B.x rfl (B.d at_142) rfl) ?_
        show Goes _ _ _ _ T (mkF me_ 143 #[.val (.int p0), .val (.int p1), .val (.int p2), .val (.int p3), .val (.int v1), .val (.int v2), .val (.int v3), .val (.int v4), .val (.ref b5), .val (.int (2 : Int32)), .val (.ref b51), .val (.int v3), .unset] [(.int (1 : Int32)), (.ref b5), (.int v3)])
        refine Goes.iaload S B A_b5 (by decide) (by decide) at_143 (v := (.int v3)) rfl ?_
        show Goes _ _ _ _ T (mkF me_ 144 #[.val (.int p0), .val (.int p1), .val (.int p2), .val (.int p3), .val (.int v1), .val (.int v2), .val (.int v3), .val (.int v4), .val (.ref b5), .val (.int (2 : Int32)), .val (.ref b51), .val (.int v3), .unset] [(.int v3), (.int v3)])
        refine Goes.go (fun _ => XS.icmpNo S.here B.x rfl (B.d at_144) rfl (teq (rfl : v3 = v3)).2) ?_
        show Goes _ _ _ _ T (mkF me_ 147 #[.val (.int p0), .val (.int p1), .val (.int p2), .val (.int p3), .val (.int v1), .val (.int v2), .val (.int v3), .val (.int v4), .val (.ref b5), .val (.int (2 : Int32)), .val (.ref b51), .val (.int v3), .unset] [])
        refine Goes.go (fun _ => XS.aload S.here B.x rfl (B.d at_147) rfl rfl) ?_
        show Goes _ _ _ _ T (mkF me_ 149 #[.val (.int p0), .val (.int p1), .val (.int p2), .val (.int p3), .val (.int v1), .val (.int v2), .val (.int v3), .val (.int v4), .val (.ref b5), .val (.int (2 : Int32)), .val (.ref b51), .val (.int v3), .unset] [(.ref b51)])
        refine Goes.callV (argsL := []) (rest := []) (W := 0) S B (rm_size l Z aw hw b51 (u62 - (1 : Int32)) _ n0 F_b51_count) E_b51 (w28 hw) (w29 hw) (w31 hw) (w30 hw) (w4 hw) (w32 hw) (by decide) (by decide) (by decide) (by decide) (by decide) rfl (lenOf pd_1 rfl) rfl (Nat.le_of_eq rfl) at_149 ?_
        intro v T h S hQ
        obtain ⟨rfl, hh⟩ := hQ
        replace hh := hh.symm
        subst hh
        show Goes _ _ _ _ T (mkF me_ 152 #[.val (.int p0), .val (.int p1), .val (.int p2), .val (.int p3), .val (.int v1), .val (.int v2), .val (.int v3), .val (.int v4), .val (.ref b5), .val (.int (2 : Int32)), .val (.ref b51), .val (.int v3), .unset] [(.int (u62 - (1 : Int32)))])
        refine Goes.go (fun _ => XS.iload S.here B.x rfl (B.d at_152) rfl) ?_
        show Goes _ _ _ _ T (mkF me_ 154 #[.val (.int p0), .val (.int p1), .val (.int p2), .val (.int p3), .val (.int v1), .val (.int v2), .val (.int v3), .val (.int v4), .val (.ref b5), .val (.int (2 : Int32)), .val (.ref b51), .val (.int v3), .unset] [(.int (2 : Int32)), (.int (u62 - (1 : Int32)))])
        refine Goes.go (fun _ => XS.iconst S.here B.x rfl (B.d at_154)) ?_
        show Goes _ _ _ _ T (mkF me_ 155 #[.val (.int p0), .val (.int p1), .val (.int p2), .val (.int p3), .val (.int v1), .val (.int v2), .val (.int v3), .val (.int v4), .val (.ref b5), .val (.int (2 : Int32)), .val (.ref b51), .val (.int v3), .unset] [(.int (1 : Int32)), (.int (2 : Int32)), (.int (u62 - (1 : Int32)))])
        refine Goes.go (fun _ => XS.isub S.here B.x rfl (B.d at_155) rfl) ?_
        show Goes _ _ _ _ T (mkF me_ 156 #[.val (.int p0), .val (.int p1), .val (.int p2), .val (.int p3), .val (.int v1), .val (.int v2), .val (.int v3), .val (.int v4), .val (.ref b5), .val (.int (2 : Int32)), .val (.ref b51), .val (.int v3), .unset] [(.int (1 : Int32)), (.int (u62 - (1 : Int32)))])
        refine Goes.go (fun _ => XS.icmpNo S.here B.x rfl (B.d at_156) rfl (teq (show (u62 - (1 : Int32)) = (1 : Int32) from own_len hS)).2) ?_
        show Goes _ _ _ _ T (mkF me_ 159 #[.val (.int p0), .val (.int p1), .val (.int p2), .val (.int p3), .val (.int v1), .val (.int v2), .val (.int v3), .val (.int v4), .val (.ref b5), .val (.int (2 : Int32)), .val (.ref b51), .val (.int v3), .unset] [])
        refine Goes.go (fun _ => XS.iconst S.here B.x rfl (B.d at_159)) ?_
        show Goes _ _ _ _ T (mkF me_ 160 #[.val (.int p0), .val (.int p1), .val (.int p2), .val (.int p3), .val (.int v1), .val (.int v2), .val (.int v3), .val (.int v4), .val (.ref b5), .val (.int (2 : Int32)), .val (.ref b51), .val (.int v3), .unset] [(.int (1 : Int32))])
        refine Goes.go (fun _ => XS.goto S.here B.x rfl (pc0 := 160) (pc' := 164) rfl (B.d at_160) (by decide) (by decide)) ?_
        show Goes _ _ _ _ T (mkF me_ 164 #[.val (.int p0), .val (.int p1), .val (.int p2), .val (.int p3), .val (.int v1), .val (.int v2), .val (.int v3), .val (.int v4), .val (.ref b5), .val (.int (2 : Int32)), .val (.ref b51), .val (.int v3), .unset] [(.int (1 : Int32))])
        refine Goes.go (fun _ => XS.istore S.here B.x rfl (B.d at_164) rfl (l' := #[.val (.int p0), .val (.int p1), .val (.int p2), .val (.int p3), .val (.int v1), .val (.int v2), .val (.int v3), .val (.int v4), .val (.ref b5), .val (.int (2 : Int32)), .val (.ref b51), .val (.int v3), .val (.int (1 : Int32))]) rfl) ?_
        show Goes _ _ _ _ T (mkF me_ 166 #[.val (.int p0), .val (.int p1), .val (.int p2), .val (.int p3), .val (.int v1), .val (.int v2), .val (.int v3), .val (.int v4), .val (.ref b5), .val (.int (2 : Int32)), .val (.ref b51), .val (.int v3), .val (.int (1 : Int32))] [])
        refine Goes.go (fun _ => XS.iload S.here B.x rfl (B.d at_166) rfl) ?_
        show Goes _ _ _ _ T (mkF me_ 168 #[.val (.int p0), .val (.int p1), .val (.int p2), .val (.int p3), .val (.int v1), .val (.int v2), .val (.int v3), .val (.int v4), .val (.ref b5), .val (.int (2 : Int32)), .val (.ref b51), .val (.int v3), .val (.int (1 : Int32))] [(.int (2 : Int32))])
        refine Goes.go (fun _ => XS.iconst S.here B.x rfl (B.d at_168)) ?_
        show Goes _ _ _ _ T (mkF me_ 169 #[.val (.int p0), .val (.int p1), .val (.int p2), .val (.int p3), .val (.int v1), .val (.int v2), .val (.int v3), .val (.int v4), .val (.ref b5), .val (.int (2 : Int32)), .val (.ref b51), .val (.int v3), .val (.int (1 : Int32))] [(.int (2 : Int32)), (.int (2 : Int32))])
        refine Goes.go (fun _ => XS.icmpNo S.here B.x rfl (B.d at_169) rfl (by decide)) ?_
        show Goes _ _ _ _ T (mkF me_ 172 #[.val (.int p0), .val (.int p1), .val (.int p2), .val (.int p3), .val (.int v1), .val (.int v2), .val (.int v3), .val (.int v4), .val (.ref b5), .val (.int (2 : Int32)), .val (.ref b51), .val (.int v3), .val (.int (1 : Int32))] [])
        refine Goes.go (fun _ => XS.iload S.here B.x rfl (B.d at_172) rfl) ?_
        show Goes _ _ _ _ T (mkF me_ 174 #[.val (.int p0), .val (.int p1), .val (.int p2), .val (.int p3), .val (.int v1), .val (.int v2), .val (.int v3), .val (.int v4), .val (.ref b5), .val (.int (2 : Int32)), .val (.ref b51), .val (.int v3), .val (.int (1 : Int32))] [(.int (1 : Int32))])
        refine Goes.go (fun _ => XS.ifNo S.here B.x rfl (B.d at_174) rfl (by decide)) ?_
        show Goes _ _ _ _ T (mkF me_ 177 #[.val (.int p0), .val (.int p1), .val (.int p2), .val (.int p3), .val (.int v1), .val (.int v2), .val (.int v3), .val (.int v4), .val (.ref b5), .val (.int (2 : Int32)), .val (.ref b51), .val (.int v3), .val (.int (1 : Int32))] [])
        refine Goes.go (fun _ => XS.aload S.here B.x rfl (B.d at_177) rfl rfl) ?_
        show Goes _ _ _ _ T (mkF me_ 179 #[.val (.int p0), .val (.int p1), .val (.int p2), .val (.int p3), .val (.int v1), .val (.int v2), .val (.int v3), .val (.int v4), .val (.ref b5), .val (.int (2 : Int32)), .val (.ref b51), .val (.int v3), .val (.int (1 : Int32))] [(.ref b51)])
        refine Goes.go (fun _ => XS.iconst S.here B.x rfl (B.d at_179)) ?_
        show Goes _ _ _ _ T (mkF me_ 180 #[.val (.int p0), .val (.int p1), .val (.int p2), .val (.int p3), .val (.int v1), .val (.int v2), .val (.int v3), .val (.int v4), .val (.ref b5), .val (.int (2 : Int32)), .val (.ref b51), .val (.int v3), .val (.int (1 : Int32))] [(.int (0 : Int32)), (.ref b51)])
        refine Goes.callV (argsL := [(.int (0 : Int32))]) (rest := []) (W := 0) S B (rm_get l Z aw hw b51 (0 : Int32) b52 v1.toNatClampNeg u60 _ n0 F_b51_items A_b52 (by decide) (own_ix hS 0 (by decide) (by simp))) E_b51 (w33 hw) (w34 hw) (w36 hw) (w35 hw) (w4 hw) (w37 hw) (by decide) (by decide) (by decide) (by decide) (by decide) rfl (lenOf pd_2 rfl) rfl (Nat.le_of_eq rfl) at_180 ?_
        intro v T h S hQ
        obtain ⟨rfl, hh⟩ := hQ
        replace hh := hh.symm
        subst hh
        show Goes _ _ _ _ T (mkF me_ 183 #[.val (.int p0), .val (.int p1), .val (.int p2), .val (.int p3), .val (.int v1), .val (.int v2), .val (.int v3), .val (.int v4), .val (.ref b5), .val (.int (2 : Int32)), .val (.ref b51), .val (.int v3), .val (.int (1 : Int32))] [(.int (u60 (0 : Int32).toNatClampNeg))])
        refine Goes.go (fun _ => XS.aload S.here B.x rfl (B.d at_183) rfl rfl) ?_
        show Goes _ _ _ _ T (mkF me_ 185 #[.val (.int p0), .val (.int p1), .val (.int p2), .val (.int p3), .val (.int v1), .val (.int v2), .val (.int v3), .val (.int v4), .val (.ref b5), .val (.int (2 : Int32)), .val (.ref b51), .val (.int v3), .val (.int (1 : Int32))] [(.ref b5), (.int (u60 (0 : Int32).toNatClampNeg))])
        refine Goes.go (fun _ => XS.iconst S.here B.x rfl (B.d at_185)) ?_
        show Goes _ _ _ _ T (mkF me_ 186 #[.val (.int p0), .val (.int p1), .val (.int p2), .val (.int p3), .val (.int v1), .val (.int v2), .val (.int v3), .val (.int v4), .val (.ref b5), .val (.int (2 : Int32)), .val (.ref b51), .val (.int v3), .val (.int (1 : Int32))] [(.int (0 : Int32)), (.ref b5), (.int (u60 (0 : Int32).toNatClampNeg))])
        refine Goes.iaload S B A_b5 (by decide) (by decide) at_186 (v := (.int v2)) rfl ?_
        show Goes _ _ _ _ T (mkF me_ 187 #[.val (.int p0), .val (.int p1), .val (.int p2), .val (.int p3), .val (.int v1), .val (.int v2), .val (.int v3), .val (.int v4), .val (.ref b5), .val (.int (2 : Int32)), .val (.ref b51), .val (.int v3), .val (.int (1 : Int32))] [(.int v2), (.int (u60 (0 : Int32).toNatClampNeg))])
        refine Goes.go (fun _ => XS.icmpNo S.here B.x rfl (B.d at_187) rfl (teq (show (u60 (0 : Int32).toNatClampNeg) = v2 from own_get hS 0 rfl)).2) ?_
        show Goes _ _ _ _ T (mkF me_ 190 #[.val (.int p0), .val (.int p1), .val (.int p2), .val (.int p3), .val (.int v1), .val (.int v2), .val (.int v3), .val (.int v4), .val (.ref b5), .val (.int (2 : Int32)), .val (.ref b51), .val (.int v3), .val (.int (1 : Int32))] [])
        refine Goes.go (fun _ => XS.iconst S.here B.x rfl (B.d at_190)) ?_
        show Goes _ _ _ _ T (mkF me_ 191 #[.val (.int p0), .val (.int p1), .val (.int p2), .val (.int p3), .val (.int v1), .val (.int v2), .val (.int v3), .val (.int v4), .val (.ref b5), .val (.int (2 : Int32)), .val (.ref b51), .val (.int v3), .val (.int (1 : Int32))] [(.int (1 : Int32))])
        refine Goes.go (fun _ => XS.goto S.here B.x rfl (pc0 := 191) (pc' := 195) rfl (B.d at_191) (by decide) (by decide)) ?_
        show Goes _ _ _ _ T (mkF me_ 195 #[.val (.int p0), .val (.int p1), .val (.int p2), .val (.int p3), .val (.int v1), .val (.int v2), .val (.int v3), .val (.int v4), .val (.ref b5), .val (.int (2 : Int32)), .val (.ref b51), .val (.int v3), .val (.int (1 : Int32))] [(.int (1 : Int32))])
        refine Goes.go (fun _ => XS.istore S.here B.x rfl (B.d at_195) rfl (l' := #[.val (.int p0), .val (.int p1), .val (.int p2), .val (.int p3), .val (.int v1), .val (.int v2), .val (.int v3), .val (.int v4), .val (.ref b5), .val (.int (2 : Int32)), .val (.ref b51), .val (.int v3), .val (.int (1 : Int32))]) rfl) ?_
        show Goes _ _ _ _ T (mkF me_ 197 #[.val (.int p0), .val (.int p1), .val (.int p2), .val (.int p3), .val (.int v1), .val (.int v2), .val (.int v3), .val (.int v4), .val (.ref b5), .val (.int (2 : Int32)), .val (.ref b51), .val (.int v3), .val (.int (1 : Int32))] [])
        refine Goes.go (fun _ => XS.iload S.here B.x rfl (B.d at_197) rfl) ?_
        show Goes _ _ _ _ T (mkF me_ 199 #[.val (.int p0), .val (.int p1), .val (.int p2), .val (.int p3), .val (.int v1), .val (.int v2), .val (.int v3), .val (.int v4), .val (.ref b5), .val (.int (2 : Int32)), .val (.ref b51), .val (.int v3), .val (.int (1 : Int32))] [(.int (2 : Int32))])
        refine Goes.go (fun _ => XS.iconst S.here B.x rfl (B.d at_199)) ?_
        show Goes _ _ _ _ T (mkF me_ 200 #[.val (.int p0), .val (.int p1), .val (.int p2), .val (.int p3), .val (.int v1), .val (.int v2), .val (.int v3), .val (.int v4), .val (.ref b5), .val (.int (2 : Int32)), .val (.ref b51), .val (.int v3), .val (.int (1 : Int32))] [(.int (3 : Int32)), (.int (2 : Int32))])
        refine Goes.go (fun _ => XS.icmpYes S.here B.x rfl (pc0 := 200) (pc' := 228) rfl (B.d at_200) rfl (by decide) (by decide) (by decide)) ?_
        show Goes _ _ _ _ T (mkF me_ 228 #[.val (.int p0), .val (.int p1), .val (.int p2), .val (.int p3), .val (.int v1), .val (.int v2), .val (.int v3), .val (.int v4), .val (.ref b5), .val (.int (2 : Int32)), .val (.ref b51), .val (.int v3), .val (.int (1 : Int32))] [])
        refine Goes.go (fun _ => XS.aload S.here B.x rfl (B.d at_228) rfl rfl) ?_
        show Goes _ _ _ _ T (mkF me_ 230 #[.val (.int p0), .val (.int p1), .val (.int p2), .val (.int p3), .val (.int v1), .val (.int v2), .val (.int v3), .val (.int v4), .val (.ref b5), .val (.int (2 : Int32)), .val (.ref b51), .val (.int v3), .val (.int (1 : Int32))] [(.ref b51)])
        refine Goes.go (fun _ => XS.iload S.here B.x rfl (B.d at_230) rfl) ?_
        show Goes _ _ _ _ T (mkF me_ 232 #[.val (.int p0), .val (.int p1), .val (.int p2), .val (.int p3), .val (.int v1), .val (.int v2), .val (.int v3), .val (.int v4), .val (.ref b5), .val (.int (2 : Int32)), .val (.ref b51), .val (.int v3), .val (.int (1 : Int32))] [(.int v3), (.ref b51)])
        refine Goes.callV (argsL := [(.int v3)]) (rest := []) (W := 0) S B (rm_add l Z aw hw b51 v3 b52 b53 v1.toNatClampNeg u60 (aup u61 (u60 (u62 - (1 : Int32)).toNatClampNeg).toNatClampNeg 0) (u62 - (1 : Int32)) _ n0 E_b51 F_b51_items F_b51_held F_b51_count A_b52 A_b53 g_b51 g_b52 g_b53 ne_b51__b52 ne_b51__b53 ne_b52__b53 rv3.1 rv3.2 (own_cn hS) (fun q => own_cl hS (own_cap1 hS rv3.1 rv3.2 (own_hz hS rv3.1 rv3.2 q)))) E_b51 (w16 hw) (w17 hw) (w19 hw) (w18 hw) (w4 hw) (w20 hw) (by decide) (by decide) (by decide) (by decide) (by decide) rfl (lenOf pd_0 rfl) rfl (Nat.le_of_eq rfl) at_232 ?_
        intro v T h S hQ
        obtain ⟨u63, u64, u65, rfl, Kc, E_b51', F_b51_items', F_b51_held', F_b51_count', A_b52', A_b53', hr_232⟩ := hQ
        replace A_b5 := A_b5.keep Kc (ninS ne_b5__b51 (ninS ne_b5__b52 (ninS ne_b5__b53 nin0)))
        replace E_b51 := E_b51'
        replace F_b51_items := F_b51_items'
        replace F_b51_held := F_b51_held'
        replace F_b51_count := F_b51_count'
        replace A_b52 := A_b52'
        replace A_b53 := A_b53'
        show Goes _ _ _ _ T (mkF me_ 235 #[.val (.int p0), .val (.int p1), .val (.int p2), .val (.int p3), .val (.int v1), .val (.int v2), .val (.int v3), .val (.int v4), .val (.ref b5), .val (.int (2 : Int32)), .val (.ref b51), .val (.int v3), .val (.int (1 : Int32))] [])
        replace hS := own_addN hS hr_232 rv3.1 rv3.2 htn (own_cap1 hS rv3.1 rv3.2 htn) (by simp)
        simp only [List.nil_append, List.cons_append] at hS
        refine Goes.go (fun _ => XS.iload S.here B.x rfl (B.d at_235) rfl) ?_
        show Goes _ _ _ _ T (mkF me_ 237 #[.val (.int p0), .val (.int p1), .val (.int p2), .val (.int p3), .val (.int v1), .val (.int v2), .val (.int v3), .val (.int v4), .val (.ref b5), .val (.int (2 : Int32)), .val (.ref b51), .val (.int v3), .val (.int (1 : Int32))] [(.int (1 : Int32))])
        refine Goes.go (fun _ => XS.ifNo S.here B.x rfl (B.d at_237) rfl (by decide)) ?_
        show Goes _ _ _ _ T (mkF me_ 240 #[.val (.int p0), .val (.int p1), .val (.int p2), .val (.int p3), .val (.int v1), .val (.int v2), .val (.int v3), .val (.int v4), .val (.ref b5), .val (.int (2 : Int32)), .val (.ref b51), .val (.int v3), .val (.int (1 : Int32))] [])
        refine Goes.go (fun _ => XS.aload S.here B.x rfl (B.d at_240) rfl rfl) ?_
        show Goes _ _ _ _ T (mkF me_ 242 #[.val (.int p0), .val (.int p1), .val (.int p2), .val (.int p3), .val (.int v1), .val (.int v2), .val (.int v3), .val (.int v4), .val (.ref b5), .val (.int (2 : Int32)), .val (.ref b51), .val (.int v3), .val (.int (1 : Int32))] [(.ref b51)])
        refine Goes.callV (argsL := []) (rest := []) (W := 0) S B (rm_size l Z aw hw b51 u65 _ n0 F_b51_count) E_b51 (w28 hw) (w29 hw) (w31 hw) (w30 hw) (w4 hw) (w32 hw) (by decide) (by decide) (by decide) (by decide) (by decide) rfl (lenOf pd_1 rfl) rfl (Nat.le_of_eq rfl) at_242 ?_
        intro v T h S hQ
        obtain ⟨rfl, hh⟩ := hQ
        replace hh := hh.symm
        subst hh
        show Goes _ _ _ _ T (mkF me_ 245 #[.val (.int p0), .val (.int p1), .val (.int p2), .val (.int p3), .val (.int v1), .val (.int v2), .val (.int v3), .val (.int v4), .val (.ref b5), .val (.int (2 : Int32)), .val (.ref b51), .val (.int v3), .val (.int (1 : Int32))] [(.int u65)])
        refine Goes.go (fun _ => XS.iload S.here B.x rfl (B.d at_245) rfl) ?_
        show Goes _ _ _ _ T (mkF me_ 247 #[.val (.int p0), .val (.int p1), .val (.int p2), .val (.int p3), .val (.int v1), .val (.int v2), .val (.int v3), .val (.int v4), .val (.ref b5), .val (.int (2 : Int32)), .val (.ref b51), .val (.int v3), .val (.int (1 : Int32))] [(.int (2 : Int32)), (.int u65)])
        refine Goes.go (fun _ => XS.icmpNo S.here B.x rfl (B.d at_247) rfl (teq (show u65 = (2 : Int32) from own_len hS)).2) ?_
        show Goes _ _ _ _ T (mkF me_ 250 #[.val (.int p0), .val (.int p1), .val (.int p2), .val (.int p3), .val (.int v1), .val (.int v2), .val (.int v3), .val (.int v4), .val (.ref b5), .val (.int (2 : Int32)), .val (.ref b51), .val (.int v3), .val (.int (1 : Int32))] [])
        refine Goes.go (fun _ => XS.aload S.here B.x rfl (B.d at_250) rfl rfl) ?_
        show Goes _ _ _ _ T (mkF me_ 252 #[.val (.int p0), .val (.int p1), .val (.int p2), .val (.int p3), .val (.int v1), .val (.int v2), .val (.int v3), .val (.int v4), .val (.ref b5), .val (.int (2 : Int32)), .val (.ref b51), .val (.int v3), .val (.int (1 : Int32))] [(.ref b51)])
        refine Goes.go (fun _ => XS.iload S.here B.x rfl (B.d at_252) rfl) ?_
        show Goes _ _ _ _ T (mkF me_ 254 #[.val (.int p0), .val (.int p1), .val (.int p2), .val (.int p3), .val (.int v1), .val (.int v2), .val (.int v3), .val (.int v4), .val (.ref b5), .val (.int (2 : Int32)), .val (.ref b51), .val (.int v3), .val (.int (1 : Int32))] [(.int (2 : Int32)), (.ref b51)])
        refine Goes.go (fun _ => XS.iconst S.here B.x rfl (B.d at_254)) ?_
        show Goes _ _ _ _ T (mkF me_ 255 #[.val (.int p0), .val (.int p1), .val (.int p2), .val (.int p3), .val (.int v1), .val (.int v2), .val (.int v3), .val (.int v4), .val (.ref b5), .val (.int (2 : Int32)), .val (.ref b51), .val (.int v3), .val (.int (1 : Int32))] [(.int (1 : Int32)), (.int (2 : Int32)), (.ref b51)])
        refine Goes.go (fun _ => XS.isub S.here B.x rfl (B.d at_255) rfl) ?_
        show Goes _ _ _ _ T (mkF me_ 256 #[.val (.int p0), .val (.int p1), .val (.int p2), .val (.int p3), .val (.int v1), .val (.int v2), .val (.int v3), .val (.int v4), .val (.ref b5), .val (.int (2 : Int32)), .val (.ref b51), .val (.int v3), .val (.int (1 : Int32))] [(.int (1 : Int32)), (.ref b51)])
        refine Goes.callV (argsL := [(.int (1 : Int32))]) (rest := []) (W := 0) S B (rm_get l Z aw hw b51 (1 : Int32) b52 v1.toNatClampNeg u63 _ n0 F_b51_items A_b52 (by decide) (own_ix hS 1 (by decide) (by simp))) E_b51 (w33 hw) (w34 hw) (w36 hw) (w35 hw) (w4 hw) (w37 hw) (by decide) (by decide) (by decide) (by decide) (by decide) rfl (lenOf pd_2 rfl) rfl (Nat.le_of_eq rfl) at_256 ?_
        intro v T h S hQ
        obtain ⟨rfl, hh⟩ := hQ
        replace hh := hh.symm
        subst hh
        show Goes _ _ _ _ T (mkF me_ 259 #[.val (.int p0), .val (.int p1), .val (.int p2), .val (.int p3), .val (.int v1), .val (.int v2), .val (.int v3), .val (.int v4), .val (.ref b5), .val (.int (2 : Int32)), .val (.ref b51), .val (.int v3), .val (.int (1 : Int32))] [(.int (u63 (1 : Int32).toNatClampNeg))])
        refine Goes.go (fun _ => XS.iload S.here B.x rfl (B.d at_259) rfl) ?_
        show Goes _ _ _ _ T (mkF me_ 261 #[.val (.int p0), .val (.int p1), .val (.int p2), .val (.int p3), .val (.int v1), .val (.int v2), .val (.int v3), .val (.int v4), .val (.ref b5), .val (.int (2 : Int32)), .val (.ref b51), .val (.int v3), .val (.int (1 : Int32))] [(.int v3), (.int (u63 (1 : Int32).toNatClampNeg))])
        refine Goes.go (fun _ => XS.icmpNo S.here B.x rfl (B.d at_261) rfl (teq (show (u63 (1 : Int32).toNatClampNeg) = v3 from own_get hS 1 rfl)).2) ?_
        show Goes _ _ _ _ T (mkF me_ 264 #[.val (.int p0), .val (.int p1), .val (.int p2), .val (.int p3), .val (.int v1), .val (.int v2), .val (.int v3), .val (.int v4), .val (.ref b5), .val (.int (2 : Int32)), .val (.ref b51), .val (.int v3), .val (.int (1 : Int32))] [])
        refine Goes.go (fun _ => XS.iconst S.here B.x rfl (B.d at_264)) ?_
        show Goes _ _ _ _ T (mkF me_ 265 #[.val (.int p0), .val (.int p1), .val (.int p2), .val (.int p3), .val (.int v1), .val (.int v2), .val (.int v3), .val (.int v4), .val (.ref b5), .val (.int (2 : Int32)), .val (.ref b51), .val (.int v3), .val (.int (1 : Int32))] [(.int (1 : Int32))])
        refine Goes.go (fun _ => XS.goto S.here B.x rfl (pc0 := 265) (pc' := 269) rfl (B.d at_265) (by decide) (by decide)) ?_
        show Goes _ _ _ _ T (mkF me_ 269 #[.val (.int p0), .val (.int p1), .val (.int p2), .val (.int p3), .val (.int v1), .val (.int v2), .val (.int v3), .val (.int v4), .val (.ref b5), .val (.int (2 : Int32)), .val (.ref b51), .val (.int v3), .val (.int (1 : Int32))] [(.int (1 : Int32))])
        refine Goes.go (fun _ => XS.istore S.here B.x rfl (B.d at_269) rfl (l' := #[.val (.int p0), .val (.int p1), .val (.int p2), .val (.int p3), .val (.int v1), .val (.int v2), .val (.int v3), .val (.int v4), .val (.ref b5), .val (.int (2 : Int32)), .val (.ref b51), .val (.int v3), .val (.int (1 : Int32))]) rfl) ?_
        show Goes _ _ _ _ T (mkF me_ 271 #[.val (.int p0), .val (.int p1), .val (.int p2), .val (.int p3), .val (.int v1), .val (.int v2), .val (.int v3), .val (.int v4), .val (.ref b5), .val (.int (2 : Int32)), .val (.ref b51), .val (.int v3), .val (.int (1 : Int32))] [])
        refine Goes.go (fun _ => XS.iload S.here B.x rfl (B.d at_271) rfl) ?_
        show Goes _ _ _ _ T (mkF me_ 273 #[.val (.int p0), .val (.int p1), .val (.int p2), .val (.int p3), .val (.int v1), .val (.int v2), .val (.int v3), .val (.int v4), .val (.ref b5), .val (.int (2 : Int32)), .val (.ref b51), .val (.int v3), .val (.int (1 : Int32))] [(.int (1 : Int32))])
        refine Goes.retN S B (by simp) at_273 (by decide) (by decide) ?_
        exact rfl
      · skip
        refine Goes.go (fun _ => XS.icmpNo S.here B.x rfl (B.d at_80) rfl (feq hc80).1) ?_
        show Goes _ _ _ _ T (mkF me_ 83 #[.val (.int p0), .val (.int p1), .val (.int p2), .val (.int p3), .val (.int v1), .val (.int v2), .val (.int v3), .val (.int v4), .val (.ref b5), .val (.int (2 : Int32)), .unset, .unset, .unset] [])
        refine Goes.go (fun _ => XS.aload S.here B.x rfl (B.d at_83) rfl rfl) ?_
        show Goes _ _ _ _ T (mkF me_ 85 #[.val (.int p0), .val (.int p1), .val (.int p2), .val (.int p3), .val (.int v1), .val (.int v2), .val (.int v3), .val (.int v4), .val (.ref b5), .val (.int (2 : Int32)), .unset, .unset, .unset] [(.ref b5)])
        refine Goes.go (fun _ => XS.iload S.here B.x rfl (B.d at_85) rfl) ?_
        show Goes _ _ _ _ T (mkF me_ 87 #[.val (.int p0), .val (.int p1), .val (.int p2), .val (.int p3), .val (.int v1), .val (.int v2), .val (.int v3), .val (.int v4), .val (.ref b5), .val (.int (2 : Int32)), .unset, .unset, .unset] [(.int (2 : Int32)), (.ref b5)])
        refine Goes.go (fun _ => XS.iload S.here B.x rfl (B.d at_87) rfl) ?_
        show Goes _ _ _ _ T (mkF me_ 89 #[.val (.int p0), .val (.int p1), .val (.int p2), .val (.int p3), .val (.int v1), .val (.int v2), .val (.int v3), .val (.int v4), .val (.ref b5), .val (.int (2 : Int32)), .unset, .unset, .unset] [(.int v4), (.int (2 : Int32)), (.ref b5)])
        refine Goes.iastore S B A_b5 (by decide) (by decide) g_b5 at_89 ?_
        intro T h S W A_b5
        replace A_b5 : Ary Z h b5 .int 3 (aup (aup (aup (fun _ => (.int 0)) 0 (.int v2)) 1 (.int v3)) 2 (.int v4)) := A_b5
        show Goes _ _ _ _ T (mkF me_ 90 #[.val (.int p0), .val (.int p1), .val (.int p2), .val (.int p3), .val (.int v1), .val (.int v2), .val (.int v3), .val (.int v4), .val (.ref b5), .val (.int (2 : Int32)), .unset, .unset, .unset] [])
        refine Goes.go (fun _ => XS.iload S.here B.x rfl (B.d at_90) rfl) ?_
        show Goes _ _ _ _ T (mkF me_ 92 #[.val (.int p0), .val (.int p1), .val (.int p2), .val (.int p3), .val (.int v1), .val (.int v2), .val (.int v3), .val (.int v4), .val (.ref b5), .val (.int (2 : Int32)), .unset, .unset, .unset] [(.int (2 : Int32))])
        refine Goes.go (fun _ => XS.iconst S.here B.x rfl (B.d at_92)) ?_
        show Goes _ _ _ _ T (mkF me_ 93 #[.val (.int p0), .val (.int p1), .val (.int p2), .val (.int p3), .val (.int v1), .val (.int v2), .val (.int v3), .val (.int v4), .val (.ref b5), .val (.int (2 : Int32)), .unset, .unset, .unset] [(.int (1 : Int32)), (.int (2 : Int32))])
        refine Goes.go (fun _ => XS.iadd S.here B.x rfl (B.d at_93) rfl) ?_
        show Goes _ _ _ _ T (mkF me_ 94 #[.val (.int p0), .val (.int p1), .val (.int p2), .val (.int p3), .val (.int v1), .val (.int v2), .val (.int v3), .val (.int v4), .val (.ref b5), .val (.int (2 : Int32)), .unset, .unset, .unset] [(.int (3 : Int32))])
        refine Goes.go (fun _ => XS.istore S.here B.x rfl (B.d at_94) rfl (l' := #[.val (.int p0), .val (.int p1), .val (.int p2), .val (.int p3), .val (.int v1), .val (.int v2), .val (.int v3), .val (.int v4), .val (.ref b5), .val (.int (3 : Int32)), .unset, .unset, .unset]) rfl) ?_
        show Goes _ _ _ _ T (mkF me_ 96 #[.val (.int p0), .val (.int p1), .val (.int p2), .val (.int p3), .val (.int v1), .val (.int v2), .val (.int v3), .val (.int v4), .val (.ref b5), .val (.int (3 : Int32)), .unset, .unset, .unset] [])
        refine Goes.newO S B (w2 hw) (w3 hw) (w4 hw) at_96 (by decide) (by decide) ?_
        intro T h b66 S X zb g_b66 E_b66 D
        have ne_b5__b66 : b5 ≠ b66 := Nat.ne_of_lt (Nat.lt_of_lt_of_le A_b5.lt (Nat.le_of_eq zb.symm))
        replace A_b5 := A_b5.ext X
        have F_b66_items : Fld Z h b66 "com/example/holdfast/holdfast/IndexStack" "items" "[I" .null := D (Or.inr (w12 hw)) (ty := (.array .int)) (by decide)
        have F_b66_held : Fld Z h b66 "com/example/holdfast/holdfast/IndexStack" "held" "[Z" .null := D (Or.inr (w15 hw)) (ty := (.array .boolean)) (by decide)
        have F_b66_count : Fld Z h b66 "com/example/holdfast/holdfast/IndexStack" "count" "I" (.int (0 : Int32)) := D (Or.inl (w22 hw)) (ty := .int) (by decide)
        show Goes _ _ _ _ T (mkF me_ 99 #[.val (.int p0), .val (.int p1), .val (.int p2), .val (.int p3), .val (.int v1), .val (.int v2), .val (.int v3), .val (.int v4), .val (.ref b5), .val (.int (3 : Int32)), .unset, .unset, .unset] [(.ref b66)])
        refine Goes.go (fun _ => XS.dup S.here B.x rfl (B.d at_99) rfl rfl) ?_
        show Goes _ _ _ _ T (mkF me_ 100 #[.val (.int p0), .val (.int p1), .val (.int p2), .val (.int p3), .val (.int v1), .val (.int v2), .val (.int v3), .val (.int v4), .val (.ref b5), .val (.int (3 : Int32)), .unset, .unset, .unset] [(.ref b66), (.ref b66)])
        refine Goes.go (fun _ => XS.iload S.here B.x rfl (B.d at_100) rfl) ?_
        show Goes _ _ _ _ T (mkF me_ 102 #[.val (.int p0), .val (.int p1), .val (.int p2), .val (.int p3), .val (.int v1), .val (.int v2), .val (.int v3), .val (.int v4), .val (.ref b5), .val (.int (3 : Int32)), .unset, .unset, .unset] [(.int v1), (.ref b66), (.ref b66)])
        have zle := S.le
        refine Goes.callI (argsL := [(.int v1)]) (rest := [(.ref b66)]) (W := 1) S B (rmI l Z aw hw b66 v1 _ n0 E_b66 F_b66_items F_b66_held F_b66_count g_b66 (own_bd hv1).1 (own_bd hv1).2) (w5 hw) (w6 hw) (w4 hw) (w7 hw) (by decide) rfl (by decide) (by decide) (by decide) (by decide) rfl (lenOf pd_0 rfl) rfl (Nat.le_of_eq rfl) at_102 ?_
        intro v T h S hQ
        obtain ⟨b67, b68, rfl, zb_b67, zb_b68, ne_b67__b68, Kc, E_b66', F_b66_items', F_b66_held', F_b66_count', A_b67', A_b68'⟩ := hQ
        have ne_b5__b67 : b5 ≠ b67 := Nat.ne_of_lt (Nat.lt_of_lt_of_le A_b5.lt zb_b67)
        have ne_b66__b67 : b66 ≠ b67 := Nat.ne_of_lt (Nat.lt_of_lt_of_le E_b66.lt zb_b67)
        have g_b67 : n0 ≤ b67 := Nat.le_trans zle zb_b67
        have ne_b5__b68 : b5 ≠ b68 := Nat.ne_of_lt (Nat.lt_of_lt_of_le A_b5.lt zb_b68)
        have ne_b66__b68 : b66 ≠ b68 := Nat.ne_of_lt (Nat.lt_of_lt_of_le E_b66.lt zb_b68)
        have g_b68 : n0 ≤ b68 := Nat.le_trans zle zb_b68
        replace A_b5 := A_b5.keep Kc (ninS ne_b5__b66 nin0)
        replace E_b66 := E_b66'
        replace F_b66_items := F_b66_items'
        replace F_b66_held := F_b66_held'
        replace F_b66_count := F_b66_count'
        have A_b67 := A_b67'
        have A_b68 := A_b68'
        show Goes _ _ _ _ T (mkF me_ 105 #[.val (.int p0), .val (.int p1), .val (.int p2), .val (.int p3), .val (.int v1), .val (.int v2), .val (.int v3), .val (.int v4), .val (.ref b5), .val (.int (3 : Int32)), .unset, .unset, .unset] [(.ref b66)])
        refine Goes.go (fun _ => XS.astore S.here B.x rfl (B.d at_105) rfl rfl (l' := #[.val (.int p0), .val (.int p1), .val (.int p2), .val (.int p3), .val (.int v1), .val (.int v2), .val (.int v3), .val (.int v4), .val (.ref b5), .val (.int (3 : Int32)), .val (.ref b66), .unset, .unset]) rfl) ?_
        show Goes _ _ _ _ T (mkF me_ 107 #[.val (.int p0), .val (.int p1), .val (.int p2), .val (.int p3), .val (.int v1), .val (.int v2), .val (.int v3), .val (.int v4), .val (.ref b5), .val (.int (3 : Int32)), .val (.ref b66), .unset, .unset] [])
        have hS : own_St v1.toNatClampNeg (fun _ => 0) (fun _ => 0) (0 : Int32) [] := own_St0
        refine Goes.go (fun _ => XS.aload S.here B.x rfl (B.d at_107) rfl rfl) ?_
        show Goes _ _ _ _ T (mkF me_ 109 #[.val (.int p0), .val (.int p1), .val (.int p2), .val (.int p3), .val (.int v1), .val (.int v2), .val (.int v3), .val (.int v4), .val (.ref b5), .val (.int (3 : Int32)), .val (.ref b66), .unset, .unset] [(.ref b66)])
        refine Goes.go (fun _ => XS.iload S.here B.x rfl (B.d at_109) rfl) ?_
        show Goes _ _ _ _ T (mkF me_ 111 #[.val (.int p0), .val (.int p1), .val (.int p2), .val (.int p3), .val (.int v1), .val (.int v2), .val (.int v3), .val (.int v4), .val (.ref b5), .val (.int (3 : Int32)), .val (.ref b66), .unset, .unset] [(.int v2), (.ref b66)])
        refine Goes.callV (argsL := [(.int v2)]) (rest := []) (W := 0) S B (rm_add l Z aw hw b66 v2 b67 b68 v1.toNatClampNeg (fun _ => 0) (fun _ => 0) (0 : Int32) _ n0 E_b66 F_b66_items F_b66_held F_b66_count A_b67 A_b68 g_b66 g_b67 g_b68 ne_b66__b67 ne_b66__b68 ne_b67__b68 rv2.1 rv2.2 (own_cn hS) (fun q => own_cl hS (own_cap0 hS rv2.1 rv2.2 (own_hz hS rv2.1 rv2.2 q)))) E_b66 (w16 hw) (w17 hw) (w19 hw) (w18 hw) (w4 hw) (w20 hw) (by decide) (by decide) (by decide) (by decide) (by decide) rfl (lenOf pd_0 rfl) rfl (Nat.le_of_eq rfl) at_111 ?_
        intro v T h S hQ
        obtain ⟨u69, u70, u71, rfl, Kc, E_b66', F_b66_items', F_b66_held', F_b66_count', A_b67', A_b68', hr_111⟩ := hQ
        replace A_b5 := A_b5.keep Kc (ninS ne_b5__b66 (ninS ne_b5__b67 (ninS ne_b5__b68 nin0)))
        replace E_b66 := E_b66'
        replace F_b66_items := F_b66_items'
        replace F_b66_held := F_b66_held'
        replace F_b66_count := F_b66_count'
        replace A_b67 := A_b67'
        replace A_b68 := A_b68'
        show Goes _ _ _ _ T (mkF me_ 114 #[.val (.int p0), .val (.int p1), .val (.int p2), .val (.int p3), .val (.int v1), .val (.int v2), .val (.int v3), .val (.int v4), .val (.ref b5), .val (.int (3 : Int32)), .val (.ref b66), .unset, .unset] [])
        replace hS := own_addN hS hr_111 rv2.1 rv2.2 (by simp) (own_cap0 hS rv2.1 rv2.2 (by simp)) (by simp)
        simp only [List.nil_append, List.cons_append] at hS
        refine Goes.go (fun _ => XS.aload S.here B.x rfl (B.d at_114) rfl rfl) ?_
        show Goes _ _ _ _ T (mkF me_ 116 #[.val (.int p0), .val (.int p1), .val (.int p2), .val (.int p3), .val (.int v1), .val (.int v2), .val (.int v3), .val (.int v4), .val (.ref b5), .val (.int (3 : Int32)), .val (.ref b66), .unset, .unset] [(.ref b66)])
        refine Goes.go (fun _ => XS.iload S.here B.x rfl (B.d at_116) rfl) ?_
        show Goes _ _ _ _ T (mkF me_ 118 #[.val (.int p0), .val (.int p1), .val (.int p2), .val (.int p3), .val (.int v1), .val (.int v2), .val (.int v3), .val (.int v4), .val (.ref b5), .val (.int (3 : Int32)), .val (.ref b66), .unset, .unset] [(.int v3), (.ref b66)])
        refine Goes.callV (argsL := [(.int v3)]) (rest := []) (W := 0) S B (rm_add l Z aw hw b66 v3 b67 b68 v1.toNatClampNeg u69 u70 u71 _ n0 E_b66 F_b66_items F_b66_held F_b66_count A_b67 A_b68 g_b66 g_b67 g_b68 ne_b66__b67 ne_b66__b68 ne_b67__b68 rv3.1 rv3.2 (own_cn hS) (fun q => own_cl hS (own_cap1 hS rv3.1 rv3.2 (own_hz hS rv3.1 rv3.2 q)))) E_b66 (w16 hw) (w17 hw) (w19 hw) (w18 hw) (w4 hw) (w20 hw) (by decide) (by decide) (by decide) (by decide) (by decide) rfl (lenOf pd_0 rfl) rfl (Nat.le_of_eq rfl) at_118 ?_
        intro v T h S hQ
        obtain ⟨u72, u73, u74, rfl, Kc, E_b66', F_b66_items', F_b66_held', F_b66_count', A_b67', A_b68', hr_118⟩ := hQ
        replace A_b5 := A_b5.keep Kc (ninS ne_b5__b66 (ninS ne_b5__b67 (ninS ne_b5__b68 nin0)))
        replace E_b66 := E_b66'
        replace F_b66_items := F_b66_items'
        replace F_b66_held := F_b66_held'
        replace F_b66_count := F_b66_count'
        replace A_b67 := A_b67'
        replace A_b68 := A_b68'
        show Goes _ _ _ _ T (mkF me_ 121 #[.val (.int p0), .val (.int p1), .val (.int p2), .val (.int p3), .val (.int v1), .val (.int v2), .val (.int v3), .val (.int v4), .val (.ref b5), .val (.int (3 : Int32)), .val (.ref b66), .unset, .unset] [])
        replace hS := own_addN hS hr_118 rv3.1 rv3.2 (by simp [hc53]) (own_cap1 hS rv3.1 rv3.2 (by simp [hc53])) (by simp)
        simp only [List.nil_append, List.cons_append] at hS
        refine Goes.go (fun _ => XS.aload S.here B.x rfl (B.d at_121) rfl rfl) ?_
        show Goes _ _ _ _ T (mkF me_ 123 #[.val (.int p0), .val (.int p1), .val (.int p2), .val (.int p3), .val (.int v1), .val (.int v2), .val (.int v3), .val (.int v4), .val (.ref b5), .val (.int (3 : Int32)), .val (.ref b66), .unset, .unset] [(.ref b66)])
        refine Goes.go (fun _ => XS.iload S.here B.x rfl (B.d at_123) rfl) ?_
        show Goes _ _ _ _ T (mkF me_ 125 #[.val (.int p0), .val (.int p1), .val (.int p2), .val (.int p3), .val (.int v1), .val (.int v2), .val (.int v3), .val (.int v4), .val (.ref b5), .val (.int (3 : Int32)), .val (.ref b66), .unset, .unset] [(.int v4), (.ref b66)])
        refine Goes.callV (argsL := [(.int v4)]) (rest := []) (W := 0) S B (rm_add l Z aw hw b66 v4 b67 b68 v1.toNatClampNeg u72 u73 u74 _ n0 E_b66 F_b66_items F_b66_held F_b66_count A_b67 A_b68 g_b66 g_b67 g_b68 ne_b66__b67 ne_b66__b68 ne_b67__b68 rv4.1 rv4.2 (own_cn hS) (fun q => own_cl hS (own_cap2 hS rv4.1 rv4.2 (own_hz hS rv4.1 rv4.2 q)))) E_b66 (w16 hw) (w17 hw) (w19 hw) (w18 hw) (w4 hw) (w20 hw) (by decide) (by decide) (by decide) (by decide) (by decide) rfl (lenOf pd_0 rfl) rfl (Nat.le_of_eq rfl) at_125 ?_
        intro v T h S hQ
        obtain ⟨u75, u76, u77, rfl, Kc, E_b66', F_b66_items', F_b66_held', F_b66_count', A_b67', A_b68', hr_125⟩ := hQ
        replace A_b5 := A_b5.keep Kc (ninS ne_b5__b66 (ninS ne_b5__b67 (ninS ne_b5__b68 nin0)))
        replace E_b66 := E_b66'
        replace F_b66_items := F_b66_items'
        replace F_b66_held := F_b66_held'
        replace F_b66_count := F_b66_count'
        replace A_b67 := A_b67'
        replace A_b68 := A_b68'
        show Goes _ _ _ _ T (mkF me_ 128 #[.val (.int p0), .val (.int p1), .val (.int p2), .val (.int p3), .val (.int v1), .val (.int v2), .val (.int v3), .val (.int v4), .val (.ref b5), .val (.int (3 : Int32)), .val (.ref b66), .unset, .unset] [])
        replace hS := own_addN hS hr_125 rv4.1 rv4.2 (by simp [hc73, hc80]) (own_cap2 hS rv4.1 rv4.2 (by simp [hc73, hc80])) (by simp)
        simp only [List.nil_append, List.cons_append] at hS
        refine Goes.go (fun _ => XS.aload S.here B.x rfl (B.d at_128) rfl rfl) ?_
        show Goes _ _ _ _ T (mkF me_ 130 #[.val (.int p0), .val (.int p1), .val (.int p2), .val (.int p3), .val (.int v1), .val (.int v2), .val (.int v3), .val (.int v4), .val (.ref b5), .val (.int (3 : Int32)), .val (.ref b66), .unset, .unset] [(.ref b66)])
        refine Goes.callV (argsL := []) (rest := []) (W := 0) S B (rm_take l Z aw hw b66 b67 b68 v1.toNatClampNeg u75 u76 u77 _ n0 E_b66 F_b66_items F_b66_held F_b66_count A_b67 A_b68 g_b66 g_b67 g_b68 ne_b66__b67 ne_b66__b68 ne_b67__b68 (own_tk (ys := [v2, v3]) (t := v4) hS).1 (own_tk (ys := [v2, v3]) (t := v4) hS).2.1 (own_tk (ys := [v2, v3]) (t := v4) hS).2.2.1 (own_tk (ys := [v2, v3]) (t := v4) hS).2.2.2) E_b66 (w23 hw) (w24 hw) (w26 hw) (w25 hw) (w4 hw) (w27 hw) (by decide) (by decide) (by decide) (by decide) (by decide) rfl (lenOf pd_1 rfl) rfl (Nat.le_of_eq rfl) at_130 ?_
        intro v T h S hQ
        obtain ⟨rfl, Kc, E_b66', F_b66_items', F_b66_held', F_b66_count', A_b67', A_b68'⟩ := hQ
        replace A_b5 := A_b5.keep Kc (ninS ne_b5__b66 (ninS ne_b5__b67 (ninS ne_b5__b68 nin0)))
        replace E_b66 := E_b66'
        replace F_b66_items := F_b66_items'
        replace F_b66_held := F_b66_held'
        replace F_b66_count := F_b66_count'
        replace A_b67 := A_b67'
        replace A_b68 := A_b68'
        show Goes _ _ _ _ T (mkF me_ 133 #[.val (.int p0), .val (.int p1), .val (.int p2), .val (.int p3), .val (.int v1), .val (.int v2), .val (.int v3), .val (.int v4), .val (.ref b5), .val (.int (3 : Int32)), .val (.ref b66), .unset, .unset] [(.int (u75 (u77 - (1 : Int32)).toNatClampNeg))])
        obtain ⟨ht, hS, htn⟩ := own_take (ys := [v2, v3]) (t := v4) hS
        rw [show (u75 (u77 - (1 : Int32)).toNatClampNeg) = v4 from ht]
        show Goes _ _ _ _ T (mkF me_ 133 #[.val (.int p0), .val (.int p1), .val (.int p2), .val (.int p3), .val (.int v1), .val (.int v2), .val (.int v3), .val (.int v4), .val (.ref b5), .val (.int (3 : Int32)), .val (.ref b66), .unset, .unset] [(.int v4)])
        refine Goes.go (fun _ => XS.istore S.here B.x rfl (B.d at_133) rfl (l' := #[.val (.int p0), .val (.int p1), .val (.int p2), .val (.int p3), .val (.int v1), .val (.int v2), .val (.int v3), .val (.int v4), .val (.ref b5), .val (.int (3 : Int32)), .val (.ref b66), .val (.int v4), .unset]) rfl) ?_
        show Goes _ _ _ _ T (mkF me_ 135 #[.val (.int p0), .val (.int p1), .val (.int p2), .val (.int p3), .val (.int v1), .val (.int v2), .val (.int v3), .val (.int v4), .val (.ref b5), .val (.int (3 : Int32)), .val (.ref b66), .val (.int v4), .unset] [])
        refine Goes.go (fun _ => XS.iload S.here B.x rfl (B.d at_135) rfl) ?_
        show Goes _ _ _ _ T (mkF me_ 137 #[.val (.int p0), .val (.int p1), .val (.int p2), .val (.int p3), .val (.int v1), .val (.int v2), .val (.int v3), .val (.int v4), .val (.ref b5), .val (.int (3 : Int32)), .val (.ref b66), .val (.int v4), .unset] [(.int v4)])
        refine Goes.go (fun _ => XS.aload S.here B.x rfl (B.d at_137) rfl rfl) ?_
        show Goes _ _ _ _ T (mkF me_ 139 #[.val (.int p0), .val (.int p1), .val (.int p2), .val (.int p3), .val (.int v1), .val (.int v2), .val (.int v3), .val (.int v4), .val (.ref b5), .val (.int (3 : Int32)), .val (.ref b66), .val (.int v4), .unset] [(.ref b5), (.int v4)])
        refine Goes.go (fun _ => XS.iload S.here B.x rfl (B.d at_139) rfl) ?_
        show Goes _ _ _ _ T (mkF me_ 141 #[.val (.int p0), .val (.int p1), .val (.int p2), .val (.int p3), .val (.int v1), .val (.int v2), .val (.int v3), .val (.int v4), .val (.ref b5), .val (.int (3 : Int32)), .val (.ref b66), .val (.int v4), .unset] [(.int (3 : Int32)), (.ref b5), (.int v4)])
        refine Goes.go (fun _ => XS.iconst S.here B.x rfl (B.d at_141)) ?_
        show Goes _ _ _ _ T (mkF me_ 142 #[.val (.int p0), .val (.int p1), .val (.int p2), .val (.int p3), .val (.int v1), .val (.int v2), .val (.int v3), .val (.int v4), .val (.ref b5), .val (.int (3 : Int32)), .val (.ref b66), .val (.int v4), .unset] [(.int (1 : Int32)), (.int (3 : Int32)), (.ref b5), (.int v4)])
        refine Goes.go (fun _ => XS.isub S.here B.x rfl (B.d at_142) rfl) ?_
        show Goes _ _ _ _ T (mkF me_ 143 #[.val (.int p0), .val (.int p1), .val (.int p2), .val (.int p3), .val (.int v1), .val (.int v2), .val (.int v3), .val (.int v4), .val (.ref b5), .val (.int (3 : Int32)), .val (.ref b66), .val (.int v4), .unset] [(.int (2 : Int32)), (.ref b5), (.int v4)])
        refine Goes.iaload S B A_b5 (by decide) (by decide) at_143 (v := (.int v4)) rfl ?_
        show Goes _ _ _ _ T (mkF me_ 144 #[.val (.int p0), .val (.int p1), .val (.int p2), .val (.int p3), .val (.int v1), .val (.int v2), .val (.int v3), .val (.int v4), .val (.ref b5), .val (.int (3 : Int32)), .val (.ref b66), .val (.int v4), .unset] [(.int v4), (.int v4)])
        refine Goes.go (fun _ => XS.icmpNo S.here B.x rfl (B.d at_144) rfl (teq (rfl : v4 = v4)).2) ?_
        show Goes _ _ _ _ T (mkF me_ 147 #[.val (.int p0), .val (.int p1), .val (.int p2), .val (.int p3), .val (.int v1), .val (.int v2), .val (.int v3), .val (.int v4), .val (.ref b5), .val (.int (3 : Int32)), .val (.ref b66), .val (.int v4), .unset] [])
        refine Goes.go (fun _ => XS.aload S.here B.x rfl (B.d at_147) rfl rfl) ?_
        show Goes _ _ _ _ T (mkF me_ 149 #[.val (.int p0), .val (.int p1), .val (.int p2), .val (.int p3), .val (.int v1), .val (.int v2), .val (.int v3), .val (.int v4), .val (.ref b5), .val (.int (3 : Int32)), .val (.ref b66), .val (.int v4), .unset] [(.ref b66)])
        refine Goes.callV (argsL := []) (rest := []) (W := 0) S B (rm_size l Z aw hw b66 (u77 - (1 : Int32)) _ n0 F_b66_count) E_b66 (w28 hw) (w29 hw) (w31 hw) (w30 hw) (w4 hw) (w32 hw) (by decide) (by decide) (by decide) (by decide) (by decide) rfl (lenOf pd_1 rfl) rfl (Nat.le_of_eq rfl) at_149 ?_
        intro v T h S hQ
        obtain ⟨rfl, hh⟩ := hQ
        replace hh := hh.symm
        subst hh
        show Goes _ _ _ _ T (mkF me_ 152 #[.val (.int p0), .val (.int p1), .val (.int p2), .val (.int p3), .val (.int v1), .val (.int v2), .val (.int v3), .val (.int v4), .val (.ref b5), .val (.int (3 : Int32)), .val (.ref b66), .val (.int v4), .unset] [(.int (u77 - (1 : Int32)))])
        refine Goes.go (fun _ => XS.iload S.here B.x rfl (B.d at_152) rfl) ?_
        show Goes _ _ _ _ T (mkF me_ 154 #[.val (.int p0), .val (.int p1), .val (.int p2), .val (.int p3), .val (.int v1), .val (.int v2), .val (.int v3), .val (.int v4), .val (.ref b5), .val (.int (3 : Int32)), .val (.ref b66), .val (.int v4), .unset] [(.int (3 : Int32)), (.int (u77 - (1 : Int32)))])
        refine Goes.go (fun _ => XS.iconst S.here B.x rfl (B.d at_154)) ?_
        show Goes _ _ _ _ T (mkF me_ 155 #[.val (.int p0), .val (.int p1), .val (.int p2), .val (.int p3), .val (.int v1), .val (.int v2), .val (.int v3), .val (.int v4), .val (.ref b5), .val (.int (3 : Int32)), .val (.ref b66), .val (.int v4), .unset] [(.int (1 : Int32)), (.int (3 : Int32)), (.int (u77 - (1 : Int32)))])
        refine Goes.go (fun _ => XS.isub S.here B.x rfl (B.d at_155) rfl) ?_
        show Goes _ _ _ _ T (mkF me_ 156 #[.val (.int p0), .val (.int p1), .val (.int p2), .val (.int p3), .val (.int v1), .val (.int v2), .val (.int v3), .val (.int v4), .val (.ref b5), .val (.int (3 : Int32)), .val (.ref b66), .val (.int v4), .unset] [(.int (2 : Int32)), (.int (u77 - (1 : Int32)))])
        refine Goes.go (fun _ => XS.icmpNo S.here B.x rfl (B.d at_156) rfl (teq (show (u77 - (1 : Int32)) = (2 : Int32) from own_len hS)).2) ?_
        show Goes _ _ _ _ T (mkF me_ 159 #[.val (.int p0), .val (.int p1), .val (.int p2), .val (.int p3), .val (.int v1), .val (.int v2), .val (.int v3), .val (.int v4), .val (.ref b5), .val (.int (3 : Int32)), .val (.ref b66), .val (.int v4), .unset] [])
        refine Goes.go (fun _ => XS.iconst S.here B.x rfl (B.d at_159)) ?_
        show Goes _ _ _ _ T (mkF me_ 160 #[.val (.int p0), .val (.int p1), .val (.int p2), .val (.int p3), .val (.int v1), .val (.int v2), .val (.int v3), .val (.int v4), .val (.ref b5), .val (.int (3 : Int32)), .val (.ref b66), .val (.int v4), .unset] [(.int (1 : Int32))])
        refine Goes.go (fun _ => XS.goto S.here B.x rfl (pc0 := 160) (pc' := 164) rfl (B.d at_160) (by decide) (by decide)) ?_
        show Goes _ _ _ _ T (mkF me_ 164 #[.val (.int p0), .val (.int p1), .val (.int p2), .val (.int p3), .val (.int v1), .val (.int v2), .val (.int v3), .val (.int v4), .val (.ref b5), .val (.int (3 : Int32)), .val (.ref b66), .val (.int v4), .unset] [(.int (1 : Int32))])
        refine Goes.go (fun _ => XS.istore S.here B.x rfl (B.d at_164) rfl (l' := #[.val (.int p0), .val (.int p1), .val (.int p2), .val (.int p3), .val (.int v1), .val (.int v2), .val (.int v3), .val (.int v4), .val (.ref b5), .val (.int (3 : Int32)), .val (.ref b66), .val (.int v4), .val (.int (1 : Int32))]) rfl) ?_
        show Goes _ _ _ _ T (mkF me_ 166 #[.val (.int p0), .val (.int p1), .val (.int p2), .val (.int p3), .val (.int v1), .val (.int v2), .val (.int v3), .val (.int v4), .val (.ref b5), .val (.int (3 : Int32)), .val (.ref b66), .val (.int v4), .val (.int (1 : Int32))] [])
        refine Goes.go (fun _ => XS.iload S.here B.x rfl (B.d at_166) rfl) ?_
        show Goes _ _ _ _ T (mkF me_ 168 #[.val (.int p0), .val (.int p1), .val (.int p2), .val (.int p3), .val (.int v1), .val (.int v2), .val (.int v3), .val (.int v4), .val (.ref b5), .val (.int (3 : Int32)), .val (.ref b66), .val (.int v4), .val (.int (1 : Int32))] [(.int (3 : Int32))])
        refine Goes.go (fun _ => XS.iconst S.here B.x rfl (B.d at_168)) ?_
        show Goes _ _ _ _ T (mkF me_ 169 #[.val (.int p0), .val (.int p1), .val (.int p2), .val (.int p3), .val (.int v1), .val (.int v2), .val (.int v3), .val (.int v4), .val (.ref b5), .val (.int (3 : Int32)), .val (.ref b66), .val (.int v4), .val (.int (1 : Int32))] [(.int (2 : Int32)), (.int (3 : Int32))])
        refine Goes.go (fun _ => XS.icmpNo S.here B.x rfl (B.d at_169) rfl (by decide)) ?_
        show Goes _ _ _ _ T (mkF me_ 172 #[.val (.int p0), .val (.int p1), .val (.int p2), .val (.int p3), .val (.int v1), .val (.int v2), .val (.int v3), .val (.int v4), .val (.ref b5), .val (.int (3 : Int32)), .val (.ref b66), .val (.int v4), .val (.int (1 : Int32))] [])
        refine Goes.go (fun _ => XS.iload S.here B.x rfl (B.d at_172) rfl) ?_
        show Goes _ _ _ _ T (mkF me_ 174 #[.val (.int p0), .val (.int p1), .val (.int p2), .val (.int p3), .val (.int v1), .val (.int v2), .val (.int v3), .val (.int v4), .val (.ref b5), .val (.int (3 : Int32)), .val (.ref b66), .val (.int v4), .val (.int (1 : Int32))] [(.int (1 : Int32))])
        refine Goes.go (fun _ => XS.ifNo S.here B.x rfl (B.d at_174) rfl (by decide)) ?_
        show Goes _ _ _ _ T (mkF me_ 177 #[.val (.int p0), .val (.int p1), .val (.int p2), .val (.int p3), .val (.int v1), .val (.int v2), .val (.int v3), .val (.int v4), .val (.ref b5), .val (.int (3 : Int32)), .val (.ref b66), .val (.int v4), .val (.int (1 : Int32))] [])
        refine Goes.go (fun _ => XS.aload S.here B.x rfl (B.d at_177) rfl rfl) ?_
        show Goes _ _ _ _ T (mkF me_ 179 #[.val (.int p0), .val (.int p1), .val (.int p2), .val (.int p3), .val (.int v1), .val (.int v2), .val (.int v3), .val (.int v4), .val (.ref b5), .val (.int (3 : Int32)), .val (.ref b66), .val (.int v4), .val (.int (1 : Int32))] [(.ref b66)])
        refine Goes.go (fun _ => XS.iconst S.here B.x rfl (B.d at_179)) ?_
        show Goes _ _ _ _ T (mkF me_ 180 #[.val (.int p0), .val (.int p1), .val (.int p2), .val (.int p3), .val (.int v1), .val (.int v2), .val (.int v3), .val (.int v4), .val (.ref b5), .val (.int (3 : Int32)), .val (.ref b66), .val (.int v4), .val (.int (1 : Int32))] [(.int (0 : Int32)), (.ref b66)])
        refine Goes.callV (argsL := [(.int (0 : Int32))]) (rest := []) (W := 0) S B (rm_get l Z aw hw b66 (0 : Int32) b67 v1.toNatClampNeg u75 _ n0 F_b66_items A_b67 (by decide) (own_ix hS 0 (by decide) (by simp))) E_b66 (w33 hw) (w34 hw) (w36 hw) (w35 hw) (w4 hw) (w37 hw) (by decide) (by decide) (by decide) (by decide) (by decide) rfl (lenOf pd_2 rfl) rfl (Nat.le_of_eq rfl) at_180 ?_
        intro v T h S hQ
        obtain ⟨rfl, hh⟩ := hQ
        replace hh := hh.symm
        subst hh
        show Goes _ _ _ _ T (mkF me_ 183 #[.val (.int p0), .val (.int p1), .val (.int p2), .val (.int p3), .val (.int v1), .val (.int v2), .val (.int v3), .val (.int v4), .val (.ref b5), .val (.int (3 : Int32)), .val (.ref b66), .val (.int v4), .val (.int (1 : Int32))] [(.int (u75 (0 : Int32).toNatClampNeg))])
        refine Goes.go (fun _ => XS.aload S.here B.x rfl (B.d at_183) rfl rfl) ?_
        show Goes _ _ _ _ T (mkF me_ 185 #[.val (.int p0), .val (.int p1), .val (.int p2), .val (.int p3), .val (.int v1), .val (.int v2), .val (.int v3), .val (.int v4), .val (.ref b5), .val (.int (3 : Int32)), .val (.ref b66), .val (.int v4), .val (.int (1 : Int32))] [(.ref b5), (.int (u75 (0 : Int32).toNatClampNeg))])
        refine Goes.go (fun _ => XS.iconst S.here B.x rfl (B.d at_185)) ?_
        show Goes _ _ _ _ T (mkF me_ 186 #[.val (.int p0), .val (.int p1), .val (.int p2), .val (.int p3), .val (.int v1), .val (.int v2), .val (.int v3), .val (.int v4), .val (.ref b5), .val (.int (3 : Int32)), .val (.ref b66), .val (.int v4), .val (.int (1 : Int32))] [(.int (0 : Int32)), (.ref b5), (.int (u75 (0 : Int32).toNatClampNeg))])
        refine Goes.iaload S B A_b5 (by decide) (by decide) at_186 (v := (.int v2)) rfl ?_
        show Goes _ _ _ _ T (mkF me_ 187 #[.val (.int p0), .val (.int p1), .val (.int p2), .val (.int p3), .val (.int v1), .val (.int v2), .val (.int v3), .val (.int v4), .val (.ref b5), .val (.int (3 : Int32)), .val (.ref b66), .val (.int v4), .val (.int (1 : Int32))] [(.int v2), (.int (u75 (0 : Int32).toNatClampNeg))])
        refine Goes.go (fun _ => XS.icmpNo S.here B.x rfl (B.d at_187) rfl (teq (show (u75 (0 : Int32).toNatClampNeg) = v2 from own_get hS 0 rfl)).2) ?_
        show Goes _ _ _ _ T (mkF me_ 190 #[.val (.int p0), .val (.int p1), .val (.int p2), .val (.int p3), .val (.int v1), .val (.int v2), .val (.int v3), .val (.int v4), .val (.ref b5), .val (.int (3 : Int32)), .val (.ref b66), .val (.int v4), .val (.int (1 : Int32))] [])
        refine Goes.go (fun _ => XS.iconst S.here B.x rfl (B.d at_190)) ?_
        show Goes _ _ _ _ T (mkF me_ 191 #[.val (.int p0), .val (.int p1), .val (.int p2), .val (.int p3), .val (.int v1), .val (.int v2), .val (.int v3), .val (.int v4), .val (.ref b5), .val (.int (3 : Int32)), .val (.ref b66), .val (.int v4), .val (.int (1 : Int32))] [(.int (1 : Int32))])
        refine Goes.go (fun _ => XS.goto S.here B.x rfl (pc0 := 191) (pc' := 195) rfl (B.d at_191) (by decide) (by decide)) ?_
        show Goes _ _ _ _ T (mkF me_ 195 #[.val (.int p0), .val (.int p1), .val (.int p2), .val (.int p3), .val (.int v1), .val (.int v2), .val (.int v3), .val (.int v4), .val (.ref b5), .val (.int (3 : Int32)), .val (.ref b66), .val (.int v4), .val (.int (1 : Int32))] [(.int (1 : Int32))])
        refine Goes.go (fun _ => XS.istore S.here B.x rfl (B.d at_195) rfl (l' := #[.val (.int p0), .val (.int p1), .val (.int p2), .val (.int p3), .val (.int v1), .val (.int v2), .val (.int v3), .val (.int v4), .val (.ref b5), .val (.int (3 : Int32)), .val (.ref b66), .val (.int v4), .val (.int (1 : Int32))]) rfl) ?_
        show Goes _ _ _ _ T (mkF me_ 197 #[.val (.int p0), .val (.int p1), .val (.int p2), .val (.int p3), .val (.int v1), .val (.int v2), .val (.int v3), .val (.int v4), .val (.ref b5), .val (.int (3 : Int32)), .val (.ref b66), .val (.int v4), .val (.int (1 : Int32))] [])
        refine Goes.go (fun _ => XS.iload S.here B.x rfl (B.d at_197) rfl) ?_
        show Goes _ _ _ _ T (mkF me_ 199 #[.val (.int p0), .val (.int p1), .val (.int p2), .val (.int p3), .val (.int v1), .val (.int v2), .val (.int v3), .val (.int v4), .val (.ref b5), .val (.int (3 : Int32)), .val (.ref b66), .val (.int v4), .val (.int (1 : Int32))] [(.int (3 : Int32))])
        refine Goes.go (fun _ => XS.iconst S.here B.x rfl (B.d at_199)) ?_
        show Goes _ _ _ _ T (mkF me_ 200 #[.val (.int p0), .val (.int p1), .val (.int p2), .val (.int p3), .val (.int v1), .val (.int v2), .val (.int v3), .val (.int v4), .val (.ref b5), .val (.int (3 : Int32)), .val (.ref b66), .val (.int v4), .val (.int (1 : Int32))] [(.int (3 : Int32)), (.int (3 : Int32))])
        refine Goes.go (fun _ => XS.icmpNo S.here B.x rfl (B.d at_200) rfl (by decide)) ?_
        show Goes _ _ _ _ T (mkF me_ 203 #[.val (.int p0), .val (.int p1), .val (.int p2), .val (.int p3), .val (.int v1), .val (.int v2), .val (.int v3), .val (.int v4), .val (.ref b5), .val (.int (3 : Int32)), .val (.ref b66), .val (.int v4), .val (.int (1 : Int32))] [])
        refine Goes.go (fun _ => XS.iload S.here B.x rfl (B.d at_203) rfl) ?_
        show Goes _ _ _ _ T (mkF me_ 205 #[.val (.int p0), .val (.int p1), .val (.int p2), .val (.int p3), .val (.int v1), .val (.int v2), .val (.int v3), .val (.int v4), .val (.ref b5), .val (.int (3 : Int32)), .val (.ref b66), .val (.int v4), .val (.int (1 : Int32))] [(.int (1 : Int32))])
        refine Goes.go (fun _ => XS.ifNo S.here B.x rfl (B.d at_205) rfl (by decide)) ?_
        show Goes _ _ _ _ T (mkF me_ 208 #[.val (.int p0), .val (.int p1), .val (.int p2), .val (.int p3), .val (.int v1), .val (.int v2), .val (.int v3), .val (.int v4), .val (.ref b5), .val (.int (3 : Int32)), .val (.ref b66), .val (.int v4), .val (.int (1 : Int32))] [])
        refine Goes.go (fun _ => XS.aload S.here B.x rfl (B.d at_208) rfl rfl) ?_
        show Goes _ _ _ _ T (mkF me_ 210 #[.val (.int p0), .val (.int p1), .val (.int p2), .val (.int p3), .val (.int v1), .val (.int v2), .val (.int v3), .val (.int v4), .val (.ref b5), .val (.int (3 : Int32)), .val (.ref b66), .val (.int v4), .val (.int (1 : Int32))] [(.ref b66)])
        refine Goes.go (fun _ => XS.iconst S.here B.x rfl (B.d at_210)) ?_
        show Goes _ _ _ _ T (mkF me_ 211 #[.val (.int p0), .val (.int p1), .val (.int p2), .val (.int p3), .val (.int v1), .val (.int v2), .val (.int v3), .val (.int v4), .val (.ref b5), .val (.int (3 : Int32)), .val (.ref b66), .val (.int v4), .val (.int (1 : Int32))] [(.int (1 : Int32)), (.ref b66)])
        refine Goes.callV (argsL := [(.int (1 : Int32))]) (rest := []) (W := 0) S B (rm_get l Z aw hw b66 (1 : Int32) b67 v1.toNatClampNeg u75 _ n0 F_b66_items A_b67 (by decide) (own_ix hS 1 (by decide) (by simp))) E_b66 (w33 hw) (w34 hw) (w36 hw) (w35 hw) (w4 hw) (w37 hw) (by decide) (by decide) (by decide) (by decide) (by decide) rfl (lenOf pd_2 rfl) rfl (Nat.le_of_eq rfl) at_211 ?_
        intro v T h S hQ
        obtain ⟨rfl, hh⟩ := hQ
        replace hh := hh.symm
        subst hh
        show Goes _ _ _ _ T (mkF me_ 214 #[.val (.int p0), .val (.int p1), .val (.int p2), .val (.int p3), .val (.int v1), .val (.int v2), .val (.int v3), .val (.int v4), .val (.ref b5), .val (.int (3 : Int32)), .val (.ref b66), .val (.int v4), .val (.int (1 : Int32))] [(.int (u75 (1 : Int32).toNatClampNeg))])
        refine Goes.go (fun _ => XS.aload S.here B.x rfl (B.d at_214) rfl rfl) ?_
        show Goes _ _ _ _ T (mkF me_ 216 #[.val (.int p0), .val (.int p1), .val (.int p2), .val (.int p3), .val (.int v1), .val (.int v2), .val (.int v3), .val (.int v4), .val (.ref b5), .val (.int (3 : Int32)), .val (.ref b66), .val (.int v4), .val (.int (1 : Int32))] [(.ref b5), (.int (u75 (1 : Int32).toNatClampNeg))])
        refine Goes.go (fun _ => XS.iconst S.here B.x rfl (B.d at_216)) ?_
        show Goes _ _ _ _ T (mkF me_ 217 #[.val (.int p0), .val (.int p1), .val (.int p2), .val (.int p3), .val (.int v1), .val (.int v2), .val (.int v3), .val (.int v4), .val (.ref b5), .val (.int (3 : Int32)), .val (.ref b66), .val (.int v4), .val (.int (1 : Int32))] [(.int (1 : Int32)), (.ref b5), (.int (u75 (1 : Int32).toNatClampNeg))])
        refine Goes.iaload S B A_b5 (by decide) (by decide) at_217 (v := (.int v3)) rfl ?_
        show Goes _ _ _ _ T (mkF me_ 218 #[.val (.int p0), .val (.int p1), .val (.int p2), .val (.int p3), .val (.int v1), .val (.int v2), .val (.int v3), .val (.int v4), .val (.ref b5), .val (.int (3 : Int32)), .val (.ref b66), .val (.int v4), .val (.int (1 : Int32))] [(.int v3), (.int (u75 (1 : Int32).toNatClampNeg))])
        refine Goes.go (fun _ => XS.icmpNo S.here B.x rfl (B.d at_218) rfl (teq (show (u75 (1 : Int32).toNatClampNeg) = v3 from own_get hS 1 rfl)).2) ?_
        show Goes _ _ _ _ T (mkF me_ 221 #[.val (.int p0), .val (.int p1), .val (.int p2), .val (.int p3), .val (.int v1), .val (.int v2), .val (.int v3), .val (.int v4), .val (.ref b5), .val (.int (3 : Int32)), .val (.ref b66), .val (.int v4), .val (.int (1 : Int32))] [])
        refine Goes.go (fun _ => XS.iconst S.here B.x rfl (B.d at_221)) ?_
        show Goes _ _ _ _ T (mkF me_ 222 #[.val (.int p0), .val (.int p1), .val (.int p2), .val (.int p3), .val (.int v1), .val (.int v2), .val (.int v3), .val (.int v4), .val (.ref b5), .val (.int (3 : Int32)), .val (.ref b66), .val (.int v4), .val (.int (1 : Int32))] [(.int (1 : Int32))])
        refine Goes.go (fun _ => XS.goto S.here B.x rfl (pc0 := 222) (pc' := 226) rfl (B.d at_222) (by decide) (by decide)) ?_
        show Goes _ _ _ _ T (mkF me_ 226 #[.val (.int p0), .val (.int p1), .val (.int p2), .val (.int p3), .val (.int v1), .val (.int v2), .val (.int v3), .val (.int v4), .val (.ref b5), .val (.int (3 : Int32)), .val (.ref b66), .val (.int v4), .val (.int (1 : Int32))] [(.int (1 : Int32))])
        refine Goes.go (fun _ => XS.istore S.here B.x rfl (B.d at_226) rfl (l' := #[.val (.int p0), .val (.int p1), .val (.int p2), .val (.int p3), .val (.int v1), .val (.int v2), .val (.int v3), .val (.int v4), .val (.ref b5), .val (.int (3 : Int32)), .val (.ref b66), .val (.int v4), .val (.int (1 : Int32))]) rfl) ?_
        show Goes _ _ _ _ T (mkF me_ 228 #[.val (.int p0), .val (.int p1), .val (.int p2), .val (.int p3), .val (.int v1), .val (.int v2), .val (.int v3), .val (.int v4), .val (.ref b5), .val (.int (3 : Int32)), .val (.ref b66), .val (.int v4), .val (.int (1 : Int32))] [])
        refine Goes.go (fun _ => XS.aload S.here B.x rfl (B.d at_228) rfl rfl) ?_
        show Goes _ _ _ _ T (mkF me_ 230 #[.val (.int p0), .val (.int p1), .val (.int p2), .val (.int p3), .val (.int v1), .val (.int v2), .val (.int v3), .val (.int v4), .val (.ref b5), .val (.int (3 : Int32)), .val (.ref b66), .val (.int v4), .val (.int (1 : Int32))] [(.ref b66)])
        refine Goes.go (fun _ => XS.iload S.here B.x rfl (B.d at_230) rfl) ?_
        show Goes _ _ _ _ T (mkF me_ 232 #[.val (.int p0), .val (.int p1), .val (.int p2), .val (.int p3), .val (.int v1), .val (.int v2), .val (.int v3), .val (.int v4), .val (.ref b5), .val (.int (3 : Int32)), .val (.ref b66), .val (.int v4), .val (.int (1 : Int32))] [(.int v4), (.ref b66)])
        refine Goes.callV (argsL := [(.int v4)]) (rest := []) (W := 0) S B (rm_add l Z aw hw b66 v4 b67 b68 v1.toNatClampNeg u75 (aup u76 (u75 (u77 - (1 : Int32)).toNatClampNeg).toNatClampNeg 0) (u77 - (1 : Int32)) _ n0 E_b66 F_b66_items F_b66_held F_b66_count A_b67 A_b68 g_b66 g_b67 g_b68 ne_b66__b67 ne_b66__b68 ne_b67__b68 rv4.1 rv4.2 (own_cn hS) (fun q => own_cl hS (own_cap2 hS rv4.1 rv4.2 (own_hz hS rv4.1 rv4.2 q)))) E_b66 (w16 hw) (w17 hw) (w19 hw) (w18 hw) (w4 hw) (w20 hw) (by decide) (by decide) (by decide) (by decide) (by decide) rfl (lenOf pd_0 rfl) rfl (Nat.le_of_eq rfl) at_232 ?_
        intro v T h S hQ
        obtain ⟨u78, u79, u80, rfl, Kc, E_b66', F_b66_items', F_b66_held', F_b66_count', A_b67', A_b68', hr_232⟩ := hQ
        replace A_b5 := A_b5.keep Kc (ninS ne_b5__b66 (ninS ne_b5__b67 (ninS ne_b5__b68 nin0)))
        replace E_b66 := E_b66'
        replace F_b66_items := F_b66_items'
        replace F_b66_held := F_b66_held'
        replace F_b66_count := F_b66_count'
        replace A_b67 := A_b67'
        replace A_b68 := A_b68'
        show Goes _ _ _ _ T (mkF me_ 235 #[.val (.int p0), .val (.int p1), .val (.int p2), .val (.int p3), .val (.int v1), .val (.int v2), .val (.int v3), .val (.int v4), .val (.ref b5), .val (.int (3 : Int32)), .val (.ref b66), .val (.int v4), .val (.int (1 : Int32))] [])
        replace hS := own_addN hS hr_232 rv4.1 rv4.2 htn (own_cap2 hS rv4.1 rv4.2 htn) (by simp)
        simp only [List.nil_append, List.cons_append] at hS
        refine Goes.go (fun _ => XS.iload S.here B.x rfl (B.d at_235) rfl) ?_
        show Goes _ _ _ _ T (mkF me_ 237 #[.val (.int p0), .val (.int p1), .val (.int p2), .val (.int p3), .val (.int v1), .val (.int v2), .val (.int v3), .val (.int v4), .val (.ref b5), .val (.int (3 : Int32)), .val (.ref b66), .val (.int v4), .val (.int (1 : Int32))] [(.int (1 : Int32))])
        refine Goes.go (fun _ => XS.ifNo S.here B.x rfl (B.d at_237) rfl (by decide)) ?_
        show Goes _ _ _ _ T (mkF me_ 240 #[.val (.int p0), .val (.int p1), .val (.int p2), .val (.int p3), .val (.int v1), .val (.int v2), .val (.int v3), .val (.int v4), .val (.ref b5), .val (.int (3 : Int32)), .val (.ref b66), .val (.int v4), .val (.int (1 : Int32))] [])
        refine Goes.go (fun _ => XS.aload S.here B.x rfl (B.d at_240) rfl rfl) ?_
        show Goes _ _ _ _ T (mkF me_ 242 #[.val (.int p0), .val (.int p1), .val (.int p2), .val (.int p3), .val (.int v1), .val (.int v2), .val (.int v3), .val (.int v4), .val (.ref b5), .val (.int (3 : Int32)), .val (.ref b66), .val (.int v4), .val (.int (1 : Int32))] [(.ref b66)])
        refine Goes.callV (argsL := []) (rest := []) (W := 0) S B (rm_size l Z aw hw b66 u80 _ n0 F_b66_count) E_b66 (w28 hw) (w29 hw) (w31 hw) (w30 hw) (w4 hw) (w32 hw) (by decide) (by decide) (by decide) (by decide) (by decide) rfl (lenOf pd_1 rfl) rfl (Nat.le_of_eq rfl) at_242 ?_
        intro v T h S hQ
        obtain ⟨rfl, hh⟩ := hQ
        replace hh := hh.symm
        subst hh
        show Goes _ _ _ _ T (mkF me_ 245 #[.val (.int p0), .val (.int p1), .val (.int p2), .val (.int p3), .val (.int v1), .val (.int v2), .val (.int v3), .val (.int v4), .val (.ref b5), .val (.int (3 : Int32)), .val (.ref b66), .val (.int v4), .val (.int (1 : Int32))] [(.int u80)])
        refine Goes.go (fun _ => XS.iload S.here B.x rfl (B.d at_245) rfl) ?_
        show Goes _ _ _ _ T (mkF me_ 247 #[.val (.int p0), .val (.int p1), .val (.int p2), .val (.int p3), .val (.int v1), .val (.int v2), .val (.int v3), .val (.int v4), .val (.ref b5), .val (.int (3 : Int32)), .val (.ref b66), .val (.int v4), .val (.int (1 : Int32))] [(.int (3 : Int32)), (.int u80)])
        refine Goes.go (fun _ => XS.icmpNo S.here B.x rfl (B.d at_247) rfl (teq (show u80 = (3 : Int32) from own_len hS)).2) ?_
        show Goes _ _ _ _ T (mkF me_ 250 #[.val (.int p0), .val (.int p1), .val (.int p2), .val (.int p3), .val (.int v1), .val (.int v2), .val (.int v3), .val (.int v4), .val (.ref b5), .val (.int (3 : Int32)), .val (.ref b66), .val (.int v4), .val (.int (1 : Int32))] [])
        refine Goes.go (fun _ => XS.aload S.here B.x rfl (B.d at_250) rfl rfl) ?_
        show Goes _ _ _ _ T (mkF me_ 252 #[.val (.int p0), .val (.int p1), .val (.int p2), .val (.int p3), .val (.int v1), .val (.int v2), .val (.int v3), .val (.int v4), .val (.ref b5), .val (.int (3 : Int32)), .val (.ref b66), .val (.int v4), .val (.int (1 : Int32))] [(.ref b66)])
        refine Goes.go (fun _ => XS.iload S.here B.x rfl (B.d at_252) rfl) ?_
        show Goes _ _ _ _ T (mkF me_ 254 #[.val (.int p0), .val (.int p1), .val (.int p2), .val (.int p3), .val (.int v1), .val (.int v2), .val (.int v3), .val (.int v4), .val (.ref b5), .val (.int (3 : Int32)), .val (.ref b66), .val (.int v4), .val (.int (1 : Int32))] [(.int (3 : Int32)), (.ref b66)])
        refine Goes.go (fun _ => XS.iconst S.here B.x rfl (B.d at_254)) ?_
        show Goes _ _ _ _ T (mkF me_ 255 #[.val (.int p0), .val (.int p1), .val (.int p2), .val (.int p3), .val (.int v1), .val (.int v2), .val (.int v3), .val (.int v4), .val (.ref b5), .val (.int (3 : Int32)), .val (.ref b66), .val (.int v4), .val (.int (1 : Int32))] [(.int (1 : Int32)), (.int (3 : Int32)), (.ref b66)])
        refine Goes.go (fun _ => XS.isub S.here B.x rfl (B.d at_255) rfl) ?_
        show Goes _ _ _ _ T (mkF me_ 256 #[.val (.int p0), .val (.int p1), .val (.int p2), .val (.int p3), .val (.int v1), .val (.int v2), .val (.int v3), .val (.int v4), .val (.ref b5), .val (.int (3 : Int32)), .val (.ref b66), .val (.int v4), .val (.int (1 : Int32))] [(.int (2 : Int32)), (.ref b66)])
        refine Goes.callV (argsL := [(.int (2 : Int32))]) (rest := []) (W := 0) S B (rm_get l Z aw hw b66 (2 : Int32) b67 v1.toNatClampNeg u78 _ n0 F_b66_items A_b67 (by decide) (own_ix hS 2 (by decide) (by simp))) E_b66 (w33 hw) (w34 hw) (w36 hw) (w35 hw) (w4 hw) (w37 hw) (by decide) (by decide) (by decide) (by decide) (by decide) rfl (lenOf pd_2 rfl) rfl (Nat.le_of_eq rfl) at_256 ?_
        intro v T h S hQ
        obtain ⟨rfl, hh⟩ := hQ
        replace hh := hh.symm
        subst hh
        show Goes _ _ _ _ T (mkF me_ 259 #[.val (.int p0), .val (.int p1), .val (.int p2), .val (.int p3), .val (.int v1), .val (.int v2), .val (.int v3), .val (.int v4), .val (.ref b5), .val (.int (3 : Int32)), .val (.ref b66), .val (.int v4), .val (.int (1 : Int32))] [(.int (u78 (2 : Int32).toNatClampNeg))])
        refine Goes.go (fun _ => XS.iload S.here B.x rfl (B.d at_259) rfl) ?_
        show Goes _ _ _ _ T (mkF me_ 261 #[.val (.int p0), .val (.int p1), .val (.int p2), .val (.int p3), .val (.int v1), .val (.int v2), .val (.int v3), .val (.int v4), .val (.ref b5), .val (.int (3 : Int32)), .val (.ref b66), .val (.int v4), .val (.int (1 : Int32))] [(.int v4), (.int (u78 (2 : Int32).toNatClampNeg))])
        refine Goes.go (fun _ => XS.icmpNo S.here B.x rfl (B.d at_261) rfl (teq (show (u78 (2 : Int32).toNatClampNeg) = v4 from own_get hS 2 rfl)).2) ?_
        show Goes _ _ _ _ T (mkF me_ 264 #[.val (.int p0), .val (.int p1), .val (.int p2), .val (.int p3), .val (.int v1), .val (.int v2), .val (.int v3), .val (.int v4), .val (.ref b5), .val (.int (3 : Int32)), .val (.ref b66), .val (.int v4), .val (.int (1 : Int32))] [])
        refine Goes.go (fun _ => XS.iconst S.here B.x rfl (B.d at_264)) ?_
        show Goes _ _ _ _ T (mkF me_ 265 #[.val (.int p0), .val (.int p1), .val (.int p2), .val (.int p3), .val (.int v1), .val (.int v2), .val (.int v3), .val (.int v4), .val (.ref b5), .val (.int (3 : Int32)), .val (.ref b66), .val (.int v4), .val (.int (1 : Int32))] [(.int (1 : Int32))])
        refine Goes.go (fun _ => XS.goto S.here B.x rfl (pc0 := 265) (pc' := 269) rfl (B.d at_265) (by decide) (by decide)) ?_
        show Goes _ _ _ _ T (mkF me_ 269 #[.val (.int p0), .val (.int p1), .val (.int p2), .val (.int p3), .val (.int v1), .val (.int v2), .val (.int v3), .val (.int v4), .val (.ref b5), .val (.int (3 : Int32)), .val (.ref b66), .val (.int v4), .val (.int (1 : Int32))] [(.int (1 : Int32))])
        refine Goes.go (fun _ => XS.istore S.here B.x rfl (B.d at_269) rfl (l' := #[.val (.int p0), .val (.int p1), .val (.int p2), .val (.int p3), .val (.int v1), .val (.int v2), .val (.int v3), .val (.int v4), .val (.ref b5), .val (.int (3 : Int32)), .val (.ref b66), .val (.int v4), .val (.int (1 : Int32))]) rfl) ?_
        show Goes _ _ _ _ T (mkF me_ 271 #[.val (.int p0), .val (.int p1), .val (.int p2), .val (.int p3), .val (.int v1), .val (.int v2), .val (.int v3), .val (.int v4), .val (.ref b5), .val (.int (3 : Int32)), .val (.ref b66), .val (.int v4), .val (.int (1 : Int32))] [])
        refine Goes.go (fun _ => XS.iload S.here B.x rfl (B.d at_271) rfl) ?_
        show Goes _ _ _ _ T (mkF me_ 273 #[.val (.int p0), .val (.int p1), .val (.int p2), .val (.int p3), .val (.int v1), .val (.int v2), .val (.int v3), .val (.int v4), .val (.ref b5), .val (.int (3 : Int32)), .val (.ref b66), .val (.int v4), .val (.int (1 : Int32))] [(.int (1 : Int32))])
        refine Goes.retN S B (by simp) at_273 (by decide) (by decide) ?_
        exact rfl
set_option maxRecDepth 65536 in
set_option maxHeartbeats 40000000 in
theorem comes_1 {Post : Tables → Env → Array Value → State → Outcome → State → Prop} (hpost : ∀ tb e args s v u, (limb_1_1.after args s (.returned v) u = true ∧ limb_1_2.after args s (.returned v) u = true ∧ True) → FrameEnd s (.returned v) u (Jvm.fieldLocs frame_1_writes args s ++ Jvm.arrayLocs frame_1_arrays args s ++ Jvm.staticLocs frame_1_statics s) 16 128 → Post tb e args s (.returned v) u) :
    ArmFor flags0 classFile x code maxLocals ret World_1 tables_1 room_1 Calls_1 rest_1 Pre_1 Post := by
  intro l hfl _ _ p e ha hc hk s m args below hf hA hF happ hP
  obtain ⟨hcalls, hrest, hpre⟩ := hP
  obtain ⟨-, -, -, hnamed, -, -, -, hat⟩ := (Spec.applies_iff hf).mp happ
  obtain ⟨hg, hn⟩ := and_e (Cond.before_iff.mp (show (Jvm.Cond.and given_1 narrow_1).before args s = true from hpre))
  obtain ⟨g0, k0⟩ := and_e hg
  obtain ⟨g1, k1⟩ := and_e k0
  obtain ⟨g2, k2⟩ := and_e k1
  obtain ⟨g3, k3⟩ := and_e k2
  have g4 := k3
  obtain ⟨w0, w1, w2, w3, rfl⟩ : ∃ w0 w1 w2 w3 : Value, args = #[w0, w1, w2, w3] := by
    have hs : args.size = 4 := by simpa [Cond.value, given_1] using g0
    obtain ⟨L⟩ := args
    match L, hs with
    | [w0, w1, w2, w3], _ => exact ⟨w0, w1, w2, w3, rfl⟩
  have hw := fun d (hd : d ∈ tables_1) => atoms_spec (ws := Jvm.Cond.code x code maxLocals ret :: tables_1) hat d (List.mem_cons_of_mem _ hd)
  obtain ⟨i0, ei0⟩ := is_v g1
  obtain rfl : w0 = (.int i0) := Option.some.inj ei0
  obtain ⟨i1, ei1⟩ := is_v g2
  obtain rfl : w1 = (.int i1) := Option.some.inj ei1
  obtain ⟨i2, ei2⟩ := is_v g3
  obtain rfl : w2 = (.int i2) := Option.some.inj ei2
  obtain ⟨i3, ei3⟩ := is_v g4
  obtain rfl : w3 = (.int i3) := Option.some.inj ei3
  obtain ⟨n, o, h1, h2, h3, _, L, rfl, ⟨N, rfl⟩, hq⟩ := rm0 l s _ hw i0 i1 i2 i3 s.heap s.heap.size (Nat.le_refl _) tables_1 p e ha hc hk s m _ below hf ((Spec.applies_iff_loose hf).mp happ).1 ⟨rfl, State.Warmed39.refl s, rfl⟩ trivial
  refine ⟨n, _, h1, h2, h3, hpost _ _ _ _ _ _ ⟨Cond.after_iff.mpr rfl, Cond.after_iff.mpr (eq_i res_at (Term.int_eval (1)) rfl), trivial⟩ ⟨hq.1, hq.2.1, (hq.2.2.sift fun y hy => Or.inr (N y hy)).mono (by decide) (by decide)⟩⟩
theorem main_1_1 : Claimed_1_1 := comes_1 fun _ _ _ _ _ _ h hF => ⟨h.1, hF⟩
theorem main_1_2 : Claimed_1_2 := comes_1 fun _ _ _ _ _ _ h hF => ⟨h.2.1, hF⟩
end Jvm.Pilot.@@N@@
namespace Jvm.Pilot.@@N@@
open Jvm Jvm.ClassFile Sem Op Lib Jvm.Free Jvm.Stand Jvm.Pilot.@@N@@.Jvm.D
/-! MADE BY PROGRAM (witnessworld.py) out of the Statement's table words and the real class files: 11 classes; the members and pool entries that the words name. The judged class is class 1, her method 1. -/
namespace start1
open Jvm.ClassFile
def u (s : String) : CpInfo := .utf8 (stringToUtf16 s)
/-- a pool by its gaps: so many unusable entries, then the entry; so many at the end -/
def gap : Nat → List CpInfo → List CpInfo
  | 0, r => r
  | n + 1, r => .unusable :: gap n r
def poolList (es : List (Nat × CpInfo)) (last : Nat) : List CpInfo := es.foldr (fun e r => gap e.1 (e.2 :: r)) (gap last [])
def pool (es : List (Nat × CpInfo)) (last : Nat) : Array CpInfo := ⟨poolList es last⟩
def fileOf (pool : Array CpInfo) (this : Nat) (attrs : Array Attribute := #[]) (ms : Array MethodInfo := #[]) (fl : Nat := 33) (sup : Nat := 0) (ifs : Array Nat := #[]) (fds : Array FieldInfo := #[]) : ClassFile where
  minorVersion := 0
  majorVersion := 65
  constantPool := pool
  accessFlags := fl
  thisClass := this
  superClass := sup
  interfaces := ifs
  fields := fds
  methods := ms
  attributes := attrs
def plain (name : String) (sup : Option ClassId) : Class where
  name := name
  kind := .ordinary
  loader := none
  accessFlags := 33
  super := sup
  interfaces := #[]
  cf := none
  fields := #[]
  methods := #[]
  instanceTypes := #[]
  staticTypes := #[]
  resolved := #[]
  callSites := []
  init := .initialized
  statics := none
  mirror := none

def pool0 : Array CpInfo := pool [(5, u "<init>"), (0, u "()V"), (1, .class_ 10), (1, u "java/lang/Object")] 113

def k0c0 : Code := { maxStack := 0, maxLocals := 1, code := object_method_1_code, exceptionTable := #[], attributes := #[] }
def k0m0 : Method := { name := "<init>", desc := "()V", sig := { parameters := [], returnType := none }, accessFlags := 1, code := some k0c0 }
/-- java/lang/Object -/
def k0 : Class := { plain "java/lang/Object" none with
  accessFlags := 33
  interfaces := #[]
  cf := some (fileOf pool0 8 #[] #[{ accessFlags := 1, nameIndex := 5, descriptorIndex := 6, attributes := #[] }] 33 0 #[] #[])
  fields := #[]
  methods := #[k0m0]
  instanceTypes := #[]
  staticTypes := #[]
  resolved := Array.replicate 124 none
  statics := none }

def pool1 : Array CpInfo := pool [(2, .class_ 4), (1, u "java/lang/Object"), (0, u "<init>"), (0, u "()V"), (0, .integer 2147483647), (0, .class_ 9), (0, u "com/example/holdfast/holdfast/IndexStack"), (0, .methodref 8 11), (0, .nameAndType 5 12), (0, u "(I)V"), (0, .methodref 8 14), (0, .nameAndType 15 12), (0, u "add"), (0, .methodref 8 17), (0, .nameAndType 18 19), (0, u "take"), (0, u "()I"), (0, .methodref 8 21), (0, .nameAndType 22 19), (0, u "size"), (0, .methodref 8 24), (0, .nameAndType 25 26), (0, u "get"), (0, u "(I)I"), (0, .class_ 28), (0, u "com/example/holdfast/holdfast/IndexStackTakePinLaw"), (2, u "law"), (0, u "(IIII)Z")] 5

def k1m0 : Method := { name := "<init>", desc := "()V", sig := { parameters := [], returnType := none }, accessFlags := 1, code := none }
def k1c1 : Code := { maxStack := 4, maxLocals := 13, code := code, exceptionTable := #[], attributes := #[] }
def k1m1 : Method := { name := "law", desc := "(IIII)Z", sig := { parameters := [.int, .int, .int, .int], returnType := some .boolean }, accessFlags := 9, code := some k1c1 }
/-- com/example/holdfast/holdfast/IndexStackTakePinLaw -/
def k1 : Class := { plain "com/example/holdfast/holdfast/IndexStackTakePinLaw" (some 0) with
  accessFlags := 49
  interfaces := #[]
  cf := some (fileOf pool1 27 #[] #[{ accessFlags := 1, nameIndex := 5, descriptorIndex := 6, attributes := #[] }, { accessFlags := 9, nameIndex := 31, descriptorIndex := 32, attributes := #[] }] 49 2 #[] #[])
  fields := #[]
  methods := #[k1m0, k1m1]
  instanceTypes := #[]
  staticTypes := #[]
  resolved := Array.replicate 38 none
  statics := none }

def pool2 : Array CpInfo := pool [(1, .methodref 2 3), (0, .class_ 4), (0, .nameAndType 5 6), (0, u "java/lang/Object"), (0, u "<init>"), (0, u "()V"), (0, .fieldref 8 9), (0, .class_ 10), (0, .nameAndType 11 12), (0, u "com/example/holdfast/holdfast/IndexStack"), (0, u "items"), (0, u "[I"), (0, .fieldref 8 14), (0, .nameAndType 15 16), (0, u "held"), (0, u "[Z"), (0, .fieldref 8 18), (0, .nameAndType 19 20), (0, u "count"), (0, u "I"), (6, u "(I)V"), (2, u "add"), (3, u "take"), (0, u "()I"), (0, u "size"), (0, u "get"), (0, u "(I)I")] 4

def k2c0 : Code := { maxStack := 2, maxLocals := 2, code := prog_7_method_1_code, exceptionTable := #[], attributes := #[] }
def k2m0 : Method := { name := "<init>", desc := "(I)V", sig := { parameters := [.int], returnType := none }, accessFlags := 0, code := some k2c0 }
def k2c1 : Code := { maxStack := 5, maxLocals := 2, code := prog_7_method_2_code, exceptionTable := #[], attributes := #[] }
def k2m1 : Method := { name := "add", desc := "(I)V", sig := { parameters := [.int], returnType := none }, accessFlags := 0, code := some k2c1 }
def k2c2 : Code := { maxStack := 4, maxLocals := 2, code := prog_7_method_4_code, exceptionTable := #[], attributes := #[] }
def k2m2 : Method := { name := "take", desc := "()I", sig := { parameters := [], returnType := some .int }, accessFlags := 0, code := some k2c2 }
def k2c3 : Code := { maxStack := 1, maxLocals := 1, code := prog_7_method_5_code, exceptionTable := #[], attributes := #[] }
def k2m3 : Method := { name := "size", desc := "()I", sig := { parameters := [], returnType := some .int }, accessFlags := 0, code := some k2c3 }
def k2c4 : Code := { maxStack := 2, maxLocals := 2, code := prog_7_method_6_code, exceptionTable := #[], attributes := #[] }
def k2m4 : Method := { name := "get", desc := "(I)I", sig := { parameters := [.int], returnType := some .int }, accessFlags := 0, code := some k2c4 }
/-- com/example/holdfast/holdfast/IndexStack -/
def k2 : Class := { plain "com/example/holdfast/holdfast/IndexStack" (some 0) with
  accessFlags := 48
  interfaces := #[]
  cf := some (fileOf pool2 8 #[] #[{ accessFlags := 0, nameIndex := 5, descriptorIndex := 27, attributes := #[] }, { accessFlags := 0, nameIndex := 30, descriptorIndex := 27, attributes := #[] }, { accessFlags := 0, nameIndex := 34, descriptorIndex := 35, attributes := #[] }, { accessFlags := 0, nameIndex := 36, descriptorIndex := 35, attributes := #[] }, { accessFlags := 0, nameIndex := 37, descriptorIndex := 38, attributes := #[] }] 48 2 #[] #[{ accessFlags := 18, nameIndex := 11, descriptorIndex := 12, attributes := #[] }, { accessFlags := 18, nameIndex := 15, descriptorIndex := 16, attributes := #[] }, { accessFlags := 2, nameIndex := 19, descriptorIndex := 20, attributes := #[] }])
  fields := #[{ name := "items", type := (.array .int), accessFlags := 18, slot := 0, constantValue := 0 }, { name := "held", type := (.array .boolean), accessFlags := 18, slot := 1, constantValue := 0 }, { name := "count", type := .int, accessFlags := 2, slot := 2, constantValue := 0 }]
  methods := #[k2m0, k2m1, k2m2, k2m3, k2m4]
  instanceTypes := #[(.array .int), (.array .boolean), .int]
  staticTypes := #[]
  resolved := Array.replicate 43 none
  statics := none }

def pool3 : Array CpInfo := pool [(1, u "java/lang/Cloneable"), (0, .class_ 1), (0, u "java/lang/Object"), (0, .class_ 3)] 3

/-- java/lang/Cloneable -/
def k3 : Class := { plain "java/lang/Cloneable" (some 0) with
  accessFlags := 1537
  interfaces := #[]
  cf := some (fileOf pool3 2 #[] #[] 1537 4 #[] #[])
  fields := #[]
  methods := #[]
  instanceTypes := #[]
  staticTypes := #[]
  resolved := Array.replicate 8 none
  statics := none }

def pool4 : Array CpInfo := pool [(1, u "java/io/Serializable"), (0, .class_ 1), (0, u "java/lang/Object"), (0, .class_ 3)] 3

/-- java/io/Serializable -/
def k4 : Class := { plain "java/io/Serializable" (some 0) with
  accessFlags := 1537
  interfaces := #[]
  cf := some (fileOf pool4 2 #[] #[] 1537 4 #[] #[])
  fields := #[]
  methods := #[]
  instanceTypes := #[]
  staticTypes := #[]
  resolved := Array.replicate 8 none
  statics := none }

/-- the primitive boolean -/
def k5 : Class := { plain "boolean" none with kind := .primitive 'Z', accessFlags := 0x411 }
/-- [Z -/
def k6 : Class := { plain "[Z" (some 0) with kind := .array 5 .boolean, interfaces := #[3, 4], accessFlags := 1041 }

/-- the primitive byte -/
def k7 : Class := { plain "byte" none with kind := .primitive 'B', accessFlags := 0x411 }
/-- [B -/
def k8 : Class := { plain "[B" (some 0) with kind := .array 7 .byte, interfaces := #[3, 4], accessFlags := 1041 }

/-- the primitive int -/
def k9 : Class := { plain "int" none with kind := .primitive 'I', accessFlags := 0x411 }
/-- [I -/
def k10 : Class := { plain "[I" (some 0) with kind := .array 9 .int, interfaces := #[3, 4], accessFlags := 1041 }

def heap : Heap := #[]
def classes : Array Class := #[k0, k1, k2, k3, k4, k5, k6, k7, k8, k9, k10]
def interned : List (Array UInt16 × Addr) := []
def slotsUsed : Nat := 0
def theMethod : MethodId := ⟨1, 1⟩
def args0 : Array Value := #[.int 5, .int 5, .int 5, .int 5]
def aboutOver (below : List Frame) : State where
  vm := { classes := classes, interned := interned.toArray }
  heap := heap
  slotsUsed := slotsUsed
  threads := #[{ frames := .invoking theMethod args0 :: below }]
def below0 : List Frame := [.native { method := ⟨0, 0⟩, args := #[] }]
def about1 : State := aboutOver below0
def p0 : Program := .bare "" "" ""
def e0 : Env := launch0.env 0 0 0
theorem w_frames : about1.frames = Frame.invoking theMethod args0 :: below0 := rfl
set_option maxRecDepth 65536 in
theorem w_args : argsFit about1.vm theMethod args0 = true := by decide +kernel
set_option maxRecDepth 65536 in
theorem w_heap : heapFits about1 = true := by decide +kernel
set_option maxRecDepth 65536 in
theorem w_runnable : about1.curStatus? = some .runnable := by decide +kernel
set_option maxRecDepth 65536 in
theorem w_alone : about1.alone = true := by decide +kernel
set_option maxRecDepth 65536 in
theorem w_named : about1.methodNamed? x = some theMethod := by decide +kernel
set_option maxRecDepth 65536 in
theorem w_hears : about1.hears theMethod below0 = true := by decide +kernel
set_option maxRecDepth 65536 in
theorem w_ripe : about1.ripe theMethod args0 below0 = true := by decide +kernel
theorem w_running : about1.status = .running := rfl
set_option maxRecDepth 65536 in
theorem w_room : about1.hasRoom e0.platform room_1 = true :=
  launch0.hasRoom_least _ room_1 (by decide +kernel) (by decide +kernel) (by decide +kernel) (by decide +kernel) (by decide +kernel) (by decide +kernel)
theorem allAtoms_all (ts : List Jvm.Cond) (a : Array Jvm.Value) (st : Jvm.State) : (allAtoms ts).before a st = ts.all (fun c => c.before a st) := by
  induction ts with
  | nil => rfl
  | cons c t ih =>
    show (Jvm.Cond.and c (allAtoms t)).before a st = _
    rw [Jvm.Cond.before_and, ih, List.all_cons]
def words1 : List Jvm.Cond := Jvm.Cond.code x code maxLocals ret :: tables_1
/-- a 'code' word, met by the world's own term for the bytes: nothing is compared byte by byte -/
theorem code_word {y : MethodName} {bytes : ByteArray} {mx : Nat} {rt : Option FieldType} {a : Array Value} {s : State} {m : MethodId} {meth : Method} {c : Code} (h1 : s.methodNamed? y = some m) (h2 : s.vm.method? m = some meth) (h3 : meth.code = some c) (h4 : c.code = bytes)
    (h5 : (c.maxLocals == mx && c.exceptionTable.isEmpty && decide (c.maxStack ≤ mostOperands) && decide (meth.sig.returnType = rt) && !meth.locks && decide (parseMethodDescriptor y.desc = some meth.sig)) = true) : (Jvm.Cond.code y bytes mx rt).before a s = true := by
  simp only [Bool.and_eq_true, beq_iff_eq, Bool.not_eq_true', decide_eq_true_eq] at h5
  obtain ⟨⟨⟨⟨⟨g1, g2⟩, g3⟩, g4⟩, g5⟩, g6⟩ := h5
  simp [Cond.before, Cond.holds, Cond.value, h1, h2, h3, h4, g1, g2, g3, g4, g5, g6]
def isCode : Jvm.Cond → Bool
  | .code _ _ _ _ => true
  | _ => false
theorem all_split {L : List Jvm.Cond} {P : Jvm.Cond → Bool} (h1 : L.all (fun c => isCode c || P c) = true) (h2 : ∀ c ∈ L.filter isCode, P c = true) : L.all P = true := by
  refine List.all_eq_true.mpr fun c hc => ?_
  have h := List.all_eq_true.mp h1 c hc
  rcases Bool.eq_false_or_eq_true (isCode c) with hi | hi
  · exact h2 c (List.mem_filter.mpr ⟨hc, hi⟩)
  · simpa [hi] using h
set_option maxRecDepth 65536 in
theorem w_c0 : (Jvm.Cond.code x code maxLocals ret).before args0 about1 = true := code_word (m := ⟨1, 1⟩) (meth := k1m1) (c := k1c1) (by decide +kernel) rfl rfl rfl (by decide +kernel)
set_option maxRecDepth 65536 in
theorem w_c1 : (Jvm.Cond.code ({ cls := "com/example/holdfast/holdfast/IndexStack", name := "<init>", desc := "(I)V" } : Jvm.MethodName) prog_7_method_1_code (2 : Nat) (Option.none : Option Jvm.ClassFile.FieldType)).before args0 about1 = true := code_word (m := ⟨2, 0⟩) (meth := k2m0) (c := k2c0) (by decide +kernel) rfl rfl rfl (by decide +kernel)
set_option maxRecDepth 65536 in
theorem w_c2 : (Jvm.Cond.code ({ cls := "java/lang/Object", name := "<init>", desc := "()V" } : Jvm.MethodName) object_method_1_code (1 : Nat) (Option.none : Option Jvm.ClassFile.FieldType)).before args0 about1 = true := code_word (m := ⟨0, 0⟩) (meth := k0m0) (c := k0c0) (by decide +kernel) rfl rfl rfl (by decide +kernel)
set_option maxRecDepth 65536 in
theorem w_c3 : (Jvm.Cond.code ({ cls := "com/example/holdfast/holdfast/IndexStack", name := "add", desc := "(I)V" } : Jvm.MethodName) prog_7_method_2_code (2 : Nat) (Option.none : Option Jvm.ClassFile.FieldType)).before args0 about1 = true := code_word (m := ⟨2, 1⟩) (meth := k2m1) (c := k2c1) (by decide +kernel) rfl rfl rfl (by decide +kernel)
set_option maxRecDepth 65536 in
theorem w_c4 : (Jvm.Cond.code ({ cls := "com/example/holdfast/holdfast/IndexStack", name := "take", desc := "()I" } : Jvm.MethodName) prog_7_method_4_code (2 : Nat) (Option.some Jvm.ClassFile.FieldType.int)).before args0 about1 = true := code_word (m := ⟨2, 2⟩) (meth := k2m2) (c := k2c2) (by decide +kernel) rfl rfl rfl (by decide +kernel)
set_option maxRecDepth 65536 in
theorem w_c5 : (Jvm.Cond.code ({ cls := "com/example/holdfast/holdfast/IndexStack", name := "size", desc := "()I" } : Jvm.MethodName) prog_7_method_5_code (1 : Nat) (Option.some Jvm.ClassFile.FieldType.int)).before args0 about1 = true := code_word (m := ⟨2, 3⟩) (meth := k2m3) (c := k2c3) (by decide +kernel) rfl rfl rfl (by decide +kernel)
set_option maxRecDepth 65536 in
theorem w_c6 : (Jvm.Cond.code ({ cls := "com/example/holdfast/holdfast/IndexStack", name := "get", desc := "(I)I" } : Jvm.MethodName) prog_7_method_6_code (2 : Nat) (Option.some Jvm.ClassFile.FieldType.int)).before args0 about1 = true := code_word (m := ⟨2, 4⟩) (meth := k2m4) (c := k2c4) (by decide +kernel) rfl rfl rfl (by decide +kernel)
def codes1 : List Jvm.Cond := [Jvm.Cond.code x code maxLocals ret, Jvm.Cond.code ({ cls := "com/example/holdfast/holdfast/IndexStack", name := "<init>", desc := "(I)V" } : Jvm.MethodName) prog_7_method_1_code (2 : Nat) (Option.none : Option Jvm.ClassFile.FieldType), Jvm.Cond.code ({ cls := "java/lang/Object", name := "<init>", desc := "()V" } : Jvm.MethodName) object_method_1_code (1 : Nat) (Option.none : Option Jvm.ClassFile.FieldType), Jvm.Cond.code ({ cls := "com/example/holdfast/holdfast/IndexStack", name := "add", desc := "(I)V" } : Jvm.MethodName) prog_7_method_2_code (2 : Nat) (Option.none : Option Jvm.ClassFile.FieldType), Jvm.Cond.code ({ cls := "com/example/holdfast/holdfast/IndexStack", name := "take", desc := "()I" } : Jvm.MethodName) prog_7_method_4_code (2 : Nat) (Option.some Jvm.ClassFile.FieldType.int), Jvm.Cond.code ({ cls := "com/example/holdfast/holdfast/IndexStack", name := "size", desc := "()I" } : Jvm.MethodName) prog_7_method_5_code (1 : Nat) (Option.some Jvm.ClassFile.FieldType.int), Jvm.Cond.code ({ cls := "com/example/holdfast/holdfast/IndexStack", name := "get", desc := "(I)I" } : Jvm.MethodName) prog_7_method_6_code (2 : Nat) (Option.some Jvm.ClassFile.FieldType.int)]
set_option maxRecDepth 65536 in
theorem codes_eq : words1.filter isCode = codes1 := rfl
theorem w_codes : ∀ c ∈ words1.filter isCode, c.before args0 about1 = true := by
  rw [codes_eq]
  intro c hc
  simp only [codes1, List.mem_cons, List.not_mem_nil, or_false] at hc
  rcases hc with rfl | rfl | rfl | rfl | rfl | rfl | rfl
  · exact w_c0
  · exact w_c1
  · exact w_c2
  · exact w_c3
  · exact w_c4
  · exact w_c5
  · exact w_c6
set_option maxRecDepth 65536 in
theorem w_t1 : (words1.take 24).all (fun c => isCode c || c.before args0 about1) = true := by decide +kernel
set_option maxRecDepth 65536 in
theorem w_t2 : (words1.drop 24).all (fun c => isCode c || c.before args0 about1) = true := by decide +kernel
theorem w_tables : (allAtoms (Jvm.Cond.code x code maxLocals ret :: tables_1)).before args0 about1 = true := by
  rw [allAtoms_all]
  show words1.all (fun c => c.before args0 about1) = true
  refine all_split ?_ w_codes
  rw [← List.take_append_drop 24 words1, List.all_append, w_t1, w_t2]
  rfl
set_option maxRecDepth 65536 in
theorem w_case : (Jvm.Cond.and given_1 narrow_1).before args0 about1 = true := by decide +kernel
theorem w_applies : (headSpec (Jvm.Cond.code x code maxLocals ret :: tables_1) room_1).applies x e0.platform about1 = true :=
  (Spec.applies_iff w_frames).mpr ⟨w_running, w_runnable, w_alone, w_named, w_hears, w_ripe, w_room, w_tables⟩
theorem atStart : AtStart classFile x code maxLocals ret World_1 tables_1 room_1 Calls_1 rest_1 Pre_1 launch0 p0 e0 about1 theMethod args0 below0 :=
  ⟨lists_1, trivial, launch0.admits_env _ _ _, launch0.least_env, fairChoices_fair.cas, fairChoices_fair.clock, w_frames, w_args, w_heap, w_applies, trivial, trivial, w_case⟩
end start1
theorem witness_1 : WitnessClaimed_1 := ⟨start1.p0, start1.e0, start1.about1, start1.theMethod, start1.args0, start1.below0, start1.atStart⟩
end Jvm.Pilot.@@N@@
