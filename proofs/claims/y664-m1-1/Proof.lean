import JvmDerived
import JvmDerived.Pilot.@@N@@Statement
import JvmDerived.Pilot.@@N@@Code
set_option linter.unusedVariables false
set_option linter.unusedSimpArgs false
namespace Jvm.OwnKit
open Sem ClassFile Op Lib Jvm.Stand Jvm.Free Jvm.LawKit Jvm.RoadKit
/-! A small layer of my own over the library's laws: 'Goes': from this frame the body comes to its end; each law turned so that it reads backwards. -/
def Goes (tb : Tables) (e : Env) (below : List Frame) (Φ : Outcome → State → Prop) (T : State) (f : JFrame) : Prop :=
  ∃ s₂ o, Steps tb e below (T.setTop f) s₂ ∧ s₂.status = .running ∧ Ended s₂ below o ∧ Φ o s₂
def Fine (s : State) (n0 : Nat) (Q : Option Value → Heap → Prop) (rc rs : Nat) (o : Outcome) (U : State) : Prop :=
  ∃ v L, o = .returned v ∧ (Fr n0 L ∧ Q v U.heap) ∧ FrameEnd s o U L rc rs
def Base (p : Program) (s : State) (m : MethodId) (meth : Method) (c : Code) (Z : State) (y : MethodName) (bytes : ByteArray) (maxL : Nat) (ret : Option FieldType) : Prop :=
  p.tables.exec = Jvm.exec ∧ Z.Warmed39 s.vm ∧ c.code = bytes ∧ c.maxLocals = maxL ∧ s.vm.findClass y.cls = some m.cls ∧ meth.name = y.name ∧ meth.sig.returnType = ret ∧ meth.locks = false
def Sd (p : Program) (l : Launch) (e : Env) (R : Room) (s : State) (m : MethodId) (args : Array Value) (below : List Frame) (meth : Method) (c : Code) (T : State) (h : Heap) (n0 cells slots : Nat) : Prop :=
  ∃ locs, Stand p l e R s m args below meth c T locs cells slots ∧ T.heap = h ∧ Fr n0 locs ∧ n0 ≤ s.heap.size
def Con (l : Launch) (Z : State) (y : MethodName) (bytes : ByteArray) (maxL : Nat) (ret : Option FieldType) (rm : Room) (as' : Array Value) (h0 : Heap) (n0 : Nat) (Q : Option Value → Heap → Prop) : Prop :=
  n0 ≤ h0.size → ∀ ws : List Cond, MetFree l y (head1 (Cond.code y bytes maxL ret :: ws) rm) (fun a U => a = as' ∧ Z.Warmed39 U.vm ∧ U.heap = h0) (fun _ _ _ _ _ => True) (fun _ U o U' => ∃ v L, o = .returned v ∧ (Fr n0 L ∧ Q v U'.heap) ∧ FrameEnd U o U' L rm.cells rm.slots)
/-! a condition as 1 or 0 -/
def bi (P : Prop) [Decidable P] : Int32 := if P then 1 else 0
theorem bi_pos {P : Prop} [Decidable P] (h : P) : bi P = 1 := if_pos h
theorem bi_neg {P : Prop} [Decidable P] (h : ¬ P) : bi P = 0 := if_neg h
theorem bi_ne {P : Prop} [Decidable P] (h : P) : ¬ bi P = 0 := by rw [bi_pos h]; decide
theorem bi_congr {P P' : Prop} [Decidable P] [Decidable P'] (h : P ↔ P') : bi P = bi P' := by by_cases q : P <;> simp [bi, q, h.mp, ← h]
theorem bi_one {P : Prop} [Decidable P] : bi P = 1 ↔ P := by by_cases q : P <;> simp [bi, q]
theorem bi_zero {P : Prop} [Decidable P] : bi P = 0 ↔ ¬ P := by by_cases q : P <;> simp [bi, q]
theorem bi_inj {P P' : Prop} [Decidable P] [Decidable P'] : bi P = bi P' ↔ (P ↔ P') := by by_cases q : P <;> by_cases q' : P' <;> simp [bi, q, q']
theorem bi_or {P : Prop} [Decidable P] : bi P = 0 ∨ bi P = 1 := by by_cases q : P <;> simp [bi, q]
theorem nar_bi {P : Prop} [Decidable P] : nar .boolean (bi P) = bi P := by by_cases q : P <;> simp [bi, q, nar]
theorem fits_bi {P : Prop} [Decidable P] : fits .boolean (.int (bi P)) = true := by by_cases q : P <;> simp [bi, q] <;> decide
theorem narrow_bi {P : Prop} [Decidable P] : narrow .boolean (.int (bi P)) = .int (bi P) := by by_cases q : P <;> simp [bi, q] <;> rfl
section Lay
variable {p : Program} {l : Launch} {e : Env} {R : Room} {s : State} {m : MethodId} {args : Array Value} {below : List Frame} {meth : Method} {c : Code} {T : State} {h : Heap} {n0 cells slots : Nat} {Z : State} {a0 : Array Value} {Φ : Outcome → State → Prop} {y0 : MethodName} {bytes0 : ByteArray} {maxL0 : Nat} {ret0 : Option FieldType} {pc : Nat} {Ls : Array Slot} {st rest : List Value}
theorem Goes.go {tb : Tables} {T' : State} {f f' : JFrame} (k : ∀ t, Steps tb e below (T'.setTop f') t → Steps tb e below (T.setTop f) t) (g : Goes tb e below Φ T' f') : Goes tb e below Φ T f := by
  obtain ⟨s2, o, h1, h2⟩ := g
  exact ⟨s2, o, k _ h1, h2⟩
theorem Goes.dia {tb : Tables} {P : Prop} [Decidable P] {f : JFrame} {mk : Int32 → JFrame} (h1 : P → Goes tb e below Φ T (mk 1) → Goes tb e below Φ T f) (h0 : ¬ P → Goes tb e below Φ T (mk 0) → Goes tb e below Φ T f) (k : Goes tb e below Φ T (mk (bi P))) : Goes tb e below Φ T f := by
  by_cases q : P
  · rw [bi_pos q] at k; exact h1 q k
  · rw [bi_neg q] at k; exact h0 q k
theorem Goes.cast {tb : Tables} {f f' : JFrame} (q : f = f') (g : Goes tb e below Φ T f') : Goes tb e below Φ T f := q ▸ g
theorem Sd.here (S : Sd p l e R s m args below meth c T h n0 cells slots) : At T m c below := by obtain ⟨_, X, -⟩ := S; exact X.here
theorem Sd.le (S : Sd p l e R s m args below meth c T h n0 cells slots) : n0 ≤ h.size := by
  obtain ⟨_, X, e, -, q⟩ := S
  have h1 := X.same.2.1
  have h2 : s.heap.size ≤ T.heap.size := h1
  rw [e] at h2
  exact Nat.le_trans q h2
theorem Base.x (B : Base p s m meth c Z y0 bytes0 maxL0 ret0) : p.tables.exec = Jvm.exec := B.1
theorem Base.d (B : Base p s m meth c Z y0 bytes0 maxL0 ret0) {r : Except DecodeError (Instr × Nat)} (hd : decode bytes0 pc = r) : decode c.code pc = r := B.2.2.1 ▸ hd
theorem Con.body {y : MethodName} {bytes : ByteArray} {maxL : Nat} {ret : Option FieldType} {rm : Room} {as' : Array Value} {h0 : Heap} {Q : Option Value → Heap → Prop} (hpl : plainFor y = true)
    (k : ∀ (p : Program) (e : Env) (s : State) (m : MethodId) (below : List Frame) (meth : Method) (c : Code) (T : State), Base p s m meth c Z y bytes maxL ret → Sd p l e rm s m as' below meth c T h0 n0 0 0 → Goes p.tables e below (Fine s n0 Q rm.cells rm.slots) T (entryFrame m as' maxL)) :
    Con l Z y bytes maxL ret rm as' h0 n0 Q := by
  intro hn ws
  refine MetFree.of_bodySF hpl hisR ?_
  intro p e s m args below meth c s₁ Bd hml0 hP hK
  obtain ⟨rfl, hZ, hh⟩ := hP
  have e0 : s₁.heap = h0 := by rw [← hh, Bd.state]; rfl
  exact k p e s m below meth c s₁ ⟨Bd.exec, hZ, Bd.bytes, hml0, findClass_of_methodNamed Bd.named, (name_of_methodNamed Bd.named Bd.method).1, Bd.returns, Bd.notSynchronized⟩ ⟨[], Stand.of_body Bd, e0, Fr.nil n0, by rw [hh]; exact hn⟩
theorem Goes.acmp {cd : ACond} {x y : Value} {o : Int} {pc' : Nat} {same : Bool} (S : Sd p l e R s m args below meth c T h n0 cells slots) (B : Base p s m meth c Z y0 bytes0 maxL0 ret0) (h1 : x.isRef = true) (h2 : y.isRef = true) (hd : decode bytes0 pc = .ok (.if_acmp cd o, 3)) (hq : decide (x = y) = same) (ho : 0 ≤ (pc : Int) + o) (hp : pc' = if acV cd same = true then ((pc : Int) + o).toNat else pc + 3)
    (k : Goes p.tables e below Φ T (mkF m pc' Ls rest)) : Goes p.tables e below Φ T (mkF m pc Ls (y :: x :: rest)) := by
  obtain ⟨locs, X, eT, N, hn⟩ := S
  exact Goes.go (fun t => RoadKit.acmp X B.1 (g := mkF m pc Ls (y :: x :: rest)) rfl h1 h2 (pc0 := pc) (pc' := pc') (same := same) rfl (B.d hd) rfl hq ho hp) k
theorem Goes.pop2L {z : Int64} (S : Sd p l e R s m args below meth c T h n0 cells slots) (B : Base p s m meth c Z y0 bytes0 maxL0 ret0) (hd : decode bytes0 pc = .ok (.pop2, 1)) (k : Goes p.tables e below Φ T (mkF m (pc + 1) Ls rest)) : Goes p.tables e below Φ T (mkF m pc Ls (.long z :: rest)) := by
  obtain ⟨locs, X, eT, N, hn⟩ := S
  refine Goes.go (fun t kk => ?_) k
  have hx := B.1
  have hd' := B.d hd
  show Steps p.tables e below (T.setTop { method := m, pc := pc, locals := Ls, stack := _ :: rest, locked := none }) _
  jvm_step X.here [X.here.top, hx, hd', Value.category]
  exact kk
theorem Goes.irem {x y : Int32} (S : Sd p l e R s m args below meth c T h n0 cells slots) (B : Base p s m meth c Z y0 bytes0 maxL0 ret0) (hd : decode bytes0 pc = .ok (.irem, 1)) (hy : y ≠ 0) (k : Goes p.tables e below Φ T (mkF m (pc + 1) Ls (.int (x % y) :: rest))) : Goes p.tables e below Φ T (mkF m pc Ls (.int y :: .int x :: rest)) := by
  obtain ⟨locs, X, eT, N, hn⟩ := S
  exact Goes.go (fun t => RoadKit.iremM X B.1 (g := mkF m pc Ls (.int y :: .int x :: rest)) rfl (B.d hd) rfl hy) k
theorem Goes.lrem {x y : Int64} (S : Sd p l e R s m args below meth c T h n0 cells slots) (B : Base p s m meth c Z y0 bytes0 maxL0 ret0) (hd : decode bytes0 pc = .ok (.lrem, 1)) (hy : y ≠ 0) (k : Goes p.tables e below Φ T (mkF m (pc + 1) Ls (.long (x % y) :: rest))) : Goes p.tables e below Φ T (mkF m pc Ls (.long y :: .long x :: rest)) := by
  obtain ⟨locs, X, eT, N, hn⟩ := S
  refine Goes.go (fun t kk => XS.lrem X.here B.1 (g := mkF m pc Ls (.long y :: .long x :: rest)) rfl (B.d hd) rfl hy ?_) k
  rw [lrem_mod]
  exact kk
/-! the ends -/
section Ends
variable {Q : Option Value → Heap → Prop} {rc rs : Nat}
theorem Goes.retV (S : Sd p l e R s m args below meth c T h n0 cells slots) (B : Base p s m meth c Z y0 bytes0 maxL0 none) (hd : decode bytes0 pc = .ok (.return_, 1)) (hc : cells ≤ rc) (hs : slots ≤ rs) (hq : Q none h) :
    Goes p.tables e below (Fine s n0 Q rc rs) T (mkF m pc Ls []) := by
  obtain ⟨locs, X, eT, N, -⟩ := S
  obtain ⟨fs, hr, hrun, hended, hW, hsame⟩ := X.leave (v := none) (fun _ => rfl) B.2.2.2.2.2.2.2
  subst eT
  exact ⟨_, _, X.returnOut B.1 B.2.2.2.2.2.2.1 (B.d hd) hr, hrun, hended, _, _, rfl, ⟨N, hq⟩, ⟨_, rfl⟩, hW, hsame.mono hc hs⟩
theorem Goes.retN {t : FieldType} {z : Int32} (S : Sd p l e R s m args below meth c T h n0 cells slots) (B : Base p s m meth c Z y0 bytes0 maxL0 (some t)) (ht : t = .boolean ∨ t = .byte ∨ t = .char ∨ t = .short) (hd : decode bytes0 pc = .ok (.ireturn, 1)) (hc : cells ≤ rc) (hs : slots ≤ rs) (hq : Q (some (.int (nar t z))) h) :
    Goes p.tables e below (Fine s n0 Q rc rs) T (mkF m pc Ls (.int z :: rest)) := by
  obtain ⟨locs, X, eT, N, -⟩ := S
  obtain ⟨fs, hr, hrun, hended, hW, hsame⟩ := X.leave (v := some (.int (nar t z))) (fun h => by rw [B.2.2.2.2.2.2.1] at h; cases h) B.2.2.2.2.2.2.2
  subst eT
  exact ⟨_, _, RoadKit.retN X B.1 B.2.2.2.2.2.2.1 ht (B.d hd) hr, hrun, hended, _, _, rfl, ⟨N, hq⟩, ⟨_, rfl⟩, hW, hsame.mono hc hs⟩
theorem Goes.retI {z : Int32} (S : Sd p l e R s m args below meth c T h n0 cells slots) (B : Base p s m meth c Z y0 bytes0 maxL0 (some .int)) (hd : decode bytes0 pc = .ok (.ireturn, 1)) (hc : cells ≤ rc) (hs : slots ≤ rs) (hq : Q (some (.int z)) h) :
    Goes p.tables e below (Fine s n0 Q rc rs) T (mkF m pc Ls (.int z :: rest)) := by
  obtain ⟨locs, X, eT, N, -⟩ := S
  obtain ⟨fs, hr, hrun, hended, hW, hsame⟩ := X.leave (v := some (.int z)) (fun h => by rw [B.2.2.2.2.2.2.1] at h; cases h) B.2.2.2.2.2.2.2
  subst eT
  refine ⟨_, _, ?_, hrun, hended, _, _, rfl, ⟨N, hq⟩, ⟨_, rfl⟩, hW, hsame.mono hc hs⟩
  have hm' : T.vm.method? m = some meth := X.method'
  have hn : narrow .int (.int z) = .int z := rfl
  have hx := B.1
  have hret := B.2.2.2.2.2.2.1
  have hd' := B.d hd
  show Steps p.tables e below (T.setTop { method := m, pc := pc, locals := Ls, stack := _ :: rest, locked := none }) _
  jvm_step X.here [X.here.top, hx, hd', hm', hret, hn]
  first | (intro acts; rw [hr _ acts rfl rfl rfl]) | rw [hr _ _ rfl rfl rfl]
  exact Steps.refl _
theorem Goes.retL {z : Int64} (S : Sd p l e R s m args below meth c T h n0 cells slots) (B : Base p s m meth c Z y0 bytes0 maxL0 (some .long)) (hd : decode bytes0 pc = .ok (.lreturn, 1)) (hc : cells ≤ rc) (hs : slots ≤ rs) (hq : Q (some (.long z)) h) :
    Goes p.tables e below (Fine s n0 Q rc rs) T (mkF m pc Ls (.long z :: rest)) := by
  obtain ⟨locs, X, eT, N, -⟩ := S
  obtain ⟨fs, hr, hrun, hended, hW, hsame⟩ := X.leave (v := some (.long z)) (fun h => by rw [B.2.2.2.2.2.2.1] at h; cases h) B.2.2.2.2.2.2.2
  subst eT
  refine ⟨_, _, ?_, hrun, hended, _, _, rfl, ⟨N, hq⟩, ⟨_, rfl⟩, hW, hsame.mono hc hs⟩
  have hm' : T.vm.method? m = some meth := X.method'
  have hx := B.1
  have hret := B.2.2.2.2.2.2.1
  have hd' := B.d hd
  show Steps p.tables e below (T.setTop { method := m, pc := pc, locals := Ls, stack := _ :: rest, locked := none }) _
  jvm_step X.here [X.here.top, hx, hd', hm', hret, narrow]
  first | (intro acts; rw [hr _ acts rfl rfl rfl]) | rw [hr _ _ rfl rfl rfl]
  exact Steps.refl _
theorem Goes.retA {b : Addr} {t : FieldType} (S : Sd p l e R s m args below meth c T h n0 cells slots) (B : Base p s m meth c Z y0 bytes0 maxL0 (some t)) (ht : t.isReference = true) (hd : decode bytes0 pc = .ok (.areturn, 1)) (hc : cells ≤ rc) (hs : slots ≤ rs) (hq : Q (some (.ref b)) h) :
    Goes p.tables e below (Fine s n0 Q rc rs) T (mkF m pc Ls (.ref b :: rest)) := by
  obtain ⟨locs, X, eT, N, -⟩ := S
  obtain ⟨fs, hr, hrun, hended, hW, hsame⟩ := X.leave (v := some (.ref b)) (fun h => by rw [B.2.2.2.2.2.2.1] at h; cases h) B.2.2.2.2.2.2.2
  subst eT
  refine ⟨_, _, ?_, hrun, hended, _, _, rfl, ⟨N, hq⟩, ⟨_, rfl⟩, hW, hsame.mono hc hs⟩
  have hm' : T.vm.method? m = some meth := X.method'
  have hx := B.1
  have hret := B.2.2.2.2.2.2.1
  have hd' := B.d hd
  show Steps p.tables e below (T.setTop { method := m, pc := pc, locals := Ls, stack := _ :: rest, locked := none }) _
  jvm_step X.here [X.here.top, hx, hd', hm', hret, Value.isRef, ht]
  first | (intro acts; rw [hr _ acts rfl rfl rfl]) | rw [hr _ _ rfl rfl rfl]
  exact Steps.refl _
end Ends
/-! fields and objects -/
theorem Goes.getF {O n d : String} {index : Nat} {a : Addr} {v : Value} (S : Sd p l e R s m args below meth c T h n0 cells slots) (B : Base p s m meth c Z y0 bytes0 maxL0 ret0) (w : (Cond.fieldLink y0.cls index O n d).before a0 Z = true) (F : Fld Z h a O n d v) (hd : decode bytes0 pc = .ok (.getfield index, 3))
    (k : ∀ T', Sd p l e R s m args below meth c T' h n0 cells slots → Goes p.tables e below Φ T' (mkF m (pc + 3) Ls (v :: rest))) : Goes p.tables e below Φ T (mkF m pc Ls (.ref a :: rest)) := by
  obtain ⟨locs, X, eT, N, hn⟩ := S
  obtain ⟨T', X', e', stp⟩ := RoadKit.getF X B.1 B.2.1 B.2.2.2.2.1 (host := "") (Or.inl w) Via.refl eT F (g := mkF m pc Ls (.ref a :: rest)) rfl rfl (B.d hd)
  exact Goes.go stp (k T' ⟨locs, X', e', N, hn⟩)
theorem Goes.putF {O n d C : String} {index kk : Nat} {ty : FieldType} {a : Addr} {v v' old : Value} (S : Sd p l e R s m args below meth c T h n0 cells slots) (B : Base p s m meth c Z y0 bytes0 maxL0 ret0) (w : (Cond.fieldLink y0.cls index O n d).before a0 Z = true) (F : Fld Z h a O n d old) (E : Exa Z h a C)
    (L : (Cond.lays C O n d).before a0 Z = true ∨ ((Cond.laysFinal C O n d).before a0 Z = true ∧ y0.cls = O ∧ y0.name = "<init>")) (wi : (Cond.instantiable C kk).before a0 Z = true) (hty : parseFieldDescriptor d = some ty) (hnr : narrow ty v = v') (hf : fits ty v' = true) (ga : n0 ≤ a) (hd : decode bytes0 pc = .ok (.putfield index, 3))
    (k : ∀ T' h', Sd p l e R s m args below meth c T' h' n0 cells slots → Wr h h' a (RoadKit.slotOf Z O n d) v' → Goes p.tables e below Φ T' (mkF m (pc + 3) Ls rest)) : Goes p.tables e below Φ T (mkF m pc Ls (v :: .ref a :: rest)) := by
  obtain ⟨locs, X, eT, N, hn⟩ := S
  obtain ⟨T', h', X', e', W, stp⟩ := RoadKit.putFN X B.1 B.2.1 B.2.2.2.2.1 w Via.refl eT F E (L.imp id fun q => ⟨q.1, q.2.1, B.2.2.2.2.2.1.trans q.2.2⟩) wi hty hnr hf (g := mkF m pc Ls (v :: .ref a :: rest)) rfl rfl (B.d hd)
  exact Goes.go stp (k T' h' ⟨_, X', e', Fr.snoc X' N ga, hn⟩ W)
theorem Goes.newO {C : String} {index nn : Nat} (S : Sd p l e R s m args below meth c T h n0 cells slots) (B : Base p s m meth c Z y0 bytes0 maxL0 ret0) (w : (Cond.classLink y0.cls index C).before a0 Z = true) (wi : (Cond.instantiable C nn).before a0 Z = true) (wz : (Cond.initialized C).before a0 Z = true) (hd : decode bytes0 pc = .ok (.new index, 3)) (hc : cells + 1 ≤ R.cells) (hl : slots + nn ≤ R.slots)
    (k : ∀ T' h' b, Sd p l e R s m args below meth c T' h' n0 (cells + 1) (slots + nn) → Ext h h' → b = h.size → n0 ≤ b → Exa Z h' b C → (∀ {O nm d : String} {ty : FieldType}, Laid Z a0 C O nm d → parseFieldDescriptor d = some ty → Fld Z h' b O nm d (defaultValue ty)) → Goes p.tables e below Φ T' (mkF m (pc + 3) Ls (.ref b :: st))) :
    Goes p.tables e below Φ T (mkF m pc Ls st) := by
  have hle := S.le
  obtain ⟨locs, X, eT, N, hn⟩ := S
  obtain ⟨T', h', X', e', E, A, D, -, stp⟩ := RoadKit.newO X B.1 B.2.1 B.2.2.2.2.1 w wi wz eT (g := mkF m pc Ls st) rfl (B.d hd) hc hl
  exact Goes.go stp (k T' h' h.size ⟨locs, X', e', N, hn⟩ E rfl hle A D)
theorem Goes.initO {index : Nat} {a : Addr} {W : Nat} (S : Sd p l e R s m args below meth c T h n0 cells slots) (B : Base p s m meth c Z y0 bytes0 maxL0 ret0) (w1 : (Cond.methodLink y0.cls index Lib.objectInit).before a0 Z = true) (w2 : (Cond.instanceMethod Lib.objectInit).before a0 Z = true) (w3 : (Cond.code Lib.objectInit ⟨#[0xb1]⟩ 1 none).before a0 Z = true)
    (hd : decode bytes0 pc = .ok (.invokespecial index, 3)) (hsz : Ls.size = maxL0) (hf : 1 ≤ R.frames) (hW : 2 * 0 + (rest.map fun v => v.category).sum ≤ W) (hl : W + 12 ≤ R.locals)
    (k : ∀ T', Sd p l e R s m args below meth c T' h n0 cells slots → Goes p.tables e below Φ T' (mkF m (pc + 3) Ls rest)) : Goes p.tables e below Φ T (mkF m pc Ls (.ref a :: rest)) := by
  obtain ⟨locs, X, eT, N, hn⟩ := S
  obtain ⟨T', X', e', stp⟩ := RoadKit.initO X B.1 B.2.1 B.2.2.2.2.1 w1 w2 w3 eT (g := mkF m pc Ls (.ref a :: rest)) rfl (by rw [B.2.2.2.1]; exact hsz) rfl (B.d hd) hf hW hl
  exact Goes.go stp (k T' ⟨locs, X', e', N, hn⟩)
theorem Goes.ldcI {index : Nat} {v : Int32} (S : Sd p l e R s m args below meth c T h n0 cells slots) (B : Base p s m meth c Z y0 bytes0 maxL0 ret0) (w : (Cond.constant y0.cls index v).before a0 Z = true) (hd : decode bytes0 pc = .ok (.ldc index, 2)) (k : Goes p.tables e below Φ T (mkF m (pc + 2) Ls (.int v :: st))) : Goes p.tables e below Φ T (mkF m pc Ls st) := by
  obtain ⟨locs, X, eT, N, hn⟩ := S
  exact Goes.go (X.ldcInt B.1 B.2.2.2.2.1 (mvT B.2.1 w) (g := mkF m pc Ls st) rfl (B.d hd)) k
theorem Goes.ldcL {index : Nat} {v : Int64} (S : Sd p l e R s m args below meth c T h n0 cells slots) (B : Base p s m meth c Z y0 bytes0 maxL0 ret0) (w : (Cond.constantLong y0.cls index v).before a0 Z = true) (hd : decode bytes0 pc = .ok (.ldc2_w index, 3)) (k : Goes p.tables e below Φ T (mkF m (pc + 3) Ls (.long v :: st))) : Goes p.tables e below Φ T (mkF m pc Ls st) := by
  obtain ⟨locs, X, eT, N, hn⟩ := S
  exact Goes.go (X.ldc2Long B.1 B.2.2.2.2.1 (mvT B.2.1 w) (g := mkF m pc Ls st) rfl (B.d hd)) k
/-! calls -/
section Calls
variable {y : MethodName} {bytes : ByteArray} {maxL : Nat} {ret : Option FieldType} {rm : Room} {index W : Nat} {argsL : List Value} {Q : Option Value → Heap → Prop}
theorem Con.back {as' : Array Value} {len : Nat} (C : Con l Z y bytes maxL ret rm as' h n0 Q) (hn : n0 ≤ h.size) (hZ : Z.Warmed39 s.vm) (wc : (Cond.code y bytes maxL ret).before a0 Z = true) (wz : (Cond.initialized y.cls).before a0 Z = true) (hf : rm.frames + 1 ≤ R.frames) (hl : W + (maxL + 11) + rm.locals ≤ R.locals) :
    Back l R p e below s args y len W (fun A a => a = as' ∧ A.U.heap = h ∧ A.cells + rm.cells ≤ R.cells ∧ A.slots + rm.slots ≤ R.slots)
      (fun A _ v B => ∃ L, (Fr n0 L ∧ Q v B.U.heap) ∧ B.locs = A.locs ++ L ∧ B.cells = A.cells + rm.cells ∧ B.slots = A.slots + rm.slots) :=
  backOf (Q := fun v h L => Fr n0 L ∧ Q v h) (C hn []) hZ wc wz hf hl
theorem Goes.callS (S : Sd p l e R s m args below meth c T h n0 cells slots) (B : Base p s m meth c Z y0 bytes0 maxL0 ret0) (C : Con l Z y bytes maxL ret rm argsL.toArray h n0 Q) (wl : (Cond.methodLink y0.cls index y).before a0 Z = true) (ws : (Cond.static y).before a0 Z = true) (wi : (Cond.initialized y.cls).before a0 Z = true) (wc : (Cond.code y bytes maxL ret).before a0 Z = true)
    (hy : y.cls ≠ "java/lang/invoke/MethodHandle" ∧ y.cls ≠ "java/lang/invoke/VarHandle") (hf : rm.frames + 1 ≤ R.frames) (hlo : W + (maxL + 11) + rm.locals ≤ R.locals) (hc : cells + rm.cells ≤ R.cells) (hs : slots + rm.slots ≤ R.slots) (hsz : Ls.size = maxL0)
    (hlen : ∀ sig, parseMethodDescriptor y.desc = some sig → argsL.length = sig.parameters.length) (hst : st = argsL.reverse ++ rest) (hW : 2 * 0 + (rest.map fun v => v.category).sum ≤ W) (hd : decode bytes0 pc = .ok (.invokestatic index, 3))
    (k : ∀ v T' h', Sd p l e R s m args below meth c T' h' n0 (cells + rm.cells) (slots + rm.slots) → Q v h' → Goes p.tables e below Φ T' (mkF m (pc + 3) Ls (v.toList ++ rest))) : Goes p.tables e below Φ T (mkF m pc Ls st) := by
  have hle := S.le
  obtain ⟨locs, X, eT, N, hn⟩ := S
  subst hst
  obtain ⟨v, _, ⟨T', L', k', n'⟩, -, X', ⟨Lc, ⟨hN, hQ⟩, l1, y1, z1⟩, stp⟩ := Jvm.LawKit.callS X B.1 (y := y) B.2.2.2.2.1 (mvT B.2.1 wl) (mvT B.2.1 ws) (mvT B.2.1 wi) (mvT B.2.1 wc) hy (Con.back (W := W) C hle B.2.1 wc wi hf hlo) (g := mkF m pc Ls (argsL.reverse ++ rest)) rfl (by rw [B.2.2.2.1]; exact hsz) (argsL := argsL) (rest := rest) hlen rfl hW (B.d hd) (fun _ _ => ⟨rfl, eT, hc, hs⟩)
  dsimp only [Pt.U, Pt.locs, Pt.cells, Pt.slots] at X' l1 y1 z1 stp hQ
  subst l1 y1 z1
  exact Goes.go stp (k v T' T'.heap ⟨_, X', rfl, N.app hN, hn⟩ hQ)
theorem Goes.callI {b : Addr} (S : Sd p l e R s m args below meth c T h n0 cells slots) (B : Base p s m meth c Z y0 bytes0 maxL0 ret0) (C : Con l Z y bytes maxL none rm (.ref b :: argsL).toArray h n0 Q) (wl : (Cond.methodLink y0.cls index y).before a0 Z = true) (wim : (Cond.instanceMethod y).before a0 Z = true) (wi : (Cond.initialized y.cls).before a0 Z = true) (wc : (Cond.code y bytes maxL none).before a0 Z = true)
    (hy : y.cls ≠ "java/lang/invoke/MethodHandle" ∧ y.cls ≠ "java/lang/invoke/VarHandle") (hni : y.name = "<init>") (hf : rm.frames + 1 ≤ R.frames) (hlo : W + (maxL + 11) + rm.locals ≤ R.locals) (hc : cells + rm.cells ≤ R.cells) (hs : slots + rm.slots ≤ R.slots) (hsz : Ls.size = maxL0)
    (hlen : ∀ sig, parseMethodDescriptor y.desc = some sig → argsL.length = sig.parameters.length) (hst : st = argsL.reverse ++ .ref b :: rest) (hW : 2 * 0 + (rest.map fun v => v.category).sum ≤ W) (hd : decode bytes0 pc = .ok (.invokespecial index, 3))
    (k : ∀ v T' h', Sd p l e R s m args below meth c T' h' n0 (cells + rm.cells) (slots + rm.slots) → Q v h' → Goes p.tables e below Φ T' (mkF m (pc + 3) Ls (v.toList ++ rest))) : Goes p.tables e below Φ T (mkF m pc Ls st) := by
  have hle := S.le
  obtain ⟨locs, X, eT, N, hn⟩ := S
  subst hst
  obtain ⟨v, _, ⟨T', L', k', n'⟩, -, X', ⟨Lc, ⟨hN, hQ⟩, l1, y1, z1⟩, stp⟩ := X.specialBack B.1 (y := y) hni B.2.2.2.2.1 (mvT B.2.1 wl) (mvT B.2.1 wim) (mvT B.2.1 wc) hy (Con.back (W := W) C hle B.2.1 wc wi hf hlo) (g := mkF m pc Ls (argsL.reverse ++ .ref b :: rest)) rfl (by rw [B.2.2.2.1]; exact hsz) (Steps.refl _) (a := b) (argsL := argsL) (rest := rest) hlen rfl hW (B.d hd) (fun _ _ => ⟨rfl, eT, hc, hs⟩)
  dsimp only [Pt.U, Pt.locs, Pt.cells, Pt.slots] at X' l1 y1 z1 stp hQ
  subst l1 y1 z1
  exact Goes.go (fun t q => stp.trans q) (k v T' T'.heap ⟨_, X', rfl, N.app hN, hn⟩ hQ)
theorem Goes.callV {b : Addr} {K : String} (S : Sd p l e R s m args below meth c T h n0 cells slots) (B : Base p s m meth c Z y0 bytes0 maxL0 ret0) (C : Con l Z y bytes maxL ret rm (.ref b :: argsL).toArray h n0 Q) (E : Exa Z h b K) (wl : (Cond.methodLink y0.cls index y).before a0 Z = true) (wd : (Cond.declares y).before a0 Z = true) (wsel : (Cond.selects K y y).before a0 Z = true) (wim : (Cond.instanceMethod y).before a0 Z = true) (wi : (Cond.initialized y.cls).before a0 Z = true) (wc : (Cond.code y bytes maxL ret).before a0 Z = true)
    (hy : y.cls ≠ "java/lang/invoke/MethodHandle" ∧ y.cls ≠ "java/lang/invoke/VarHandle") (hf : rm.frames + 1 ≤ R.frames) (hlo : W + (maxL + 11) + rm.locals ≤ R.locals) (hc : cells + rm.cells ≤ R.cells) (hs : slots + rm.slots ≤ R.slots) (hsz : Ls.size = maxL0)
    (hlen : ∀ sig, parseMethodDescriptor y.desc = some sig → argsL.length = sig.parameters.length) (hst : st = argsL.reverse ++ .ref b :: rest) (hW : 2 * 0 + (rest.map fun v => v.category).sum ≤ W) (hd : decode bytes0 pc = .ok (.invokevirtual index, 3))
    (k : ∀ v T' h', Sd p l e R s m args below meth c T' h' n0 (cells + rm.cells) (slots + rm.slots) → Q v h' → Goes p.tables e below Φ T' (mkF m (pc + 3) Ls (v.toList ++ rest))) : Goes p.tables e below Φ T (mkF m pc Ls st) := by
  have hle := S.le
  obtain ⟨locs, X, eT, N, hn⟩ := S
  subst hst
  obtain ⟨cq, kq, qa, qb, qc⟩ := isOf B.2.1 eT E
  obtain ⟨v, _, ⟨T', L', k', n'⟩, -, X', ⟨Lc, ⟨hN, hQ⟩, l1, y1, z1⟩, stp⟩ := X.virtualBack B.1 (y := y) (z := y) B.2.2.2.2.1 (mvT B.2.1 wl) (mvT B.2.1 wd) (notFace_of_selects (args := #[]) (mvT B.2.1 wsel)) (mvT B.2.1 wsel) (mvT B.2.1 wim) hy (Con.back (W := W) C hle B.2.1 wc wi hf hlo) qa qc (g := mkF m pc Ls (argsL.reverse ++ .ref b :: rest)) rfl (by rw [B.2.2.2.1]; exact hsz) (Steps.refl _) (argsL := argsL) (rest := rest) hlen rfl hW (B.d hd) (fun _ _ => ⟨rfl, eT, hc, hs⟩)
  dsimp only [Pt.U, Pt.locs, Pt.cells, Pt.slots] at X' l1 y1 z1 stp hQ
  subst l1 y1 z1
  exact Goes.go (fun t q => stp.trans q) (k v T' T'.heap ⟨_, X', rfl, N.app hN, hn⟩ hQ)
theorem Goes.callP {b : Addr} {K : String} (S : Sd p l e R s m args below meth c T h n0 cells slots) (B : Base p s m meth c Z y0 bytes0 maxL0 ret0) (C : Con l Z y bytes maxL ret rm (.ref b :: argsL).toArray h n0 Q) (E : Exa Z h b K) (wl : (Cond.methodLink y0.cls index y).before a0 Z = true) (wp : (Cond.privateMethod y).before a0 Z = true) {kk : Nat} (wk : (Cond.instantiable y.cls kk).before a0 Z = true) (wim : (Cond.instanceMethod y).before a0 Z = true) (wi : (Cond.initialized y.cls).before a0 Z = true) (wc : (Cond.code y bytes maxL ret).before a0 Z = true)
    (hy : y.cls ≠ "java/lang/invoke/MethodHandle" ∧ y.cls ≠ "java/lang/invoke/VarHandle") (hf : rm.frames + 1 ≤ R.frames) (hlo : W + (maxL + 11) + rm.locals ≤ R.locals) (hc : cells + rm.cells ≤ R.cells) (hs : slots + rm.slots ≤ R.slots) (hsz : Ls.size = maxL0)
    (hlen : ∀ sig, parseMethodDescriptor y.desc = some sig → argsL.length = sig.parameters.length) (hst : st = argsL.reverse ++ .ref b :: rest) (hW : 2 * 0 + (rest.map fun v => v.category).sum ≤ W) (hd : decode bytes0 pc = .ok (.invokevirtual index, 3))
    (k : ∀ v T' h', Sd p l e R s m args below meth c T' h' n0 (cells + rm.cells) (slots + rm.slots) → Q v h' → Goes p.tables e below Φ T' (mkF m (pc + 3) Ls (v.toList ++ rest))) : Goes p.tables e below Φ T (mkF m pc Ls st) := by
  have hle := S.le
  obtain ⟨locs, X, eT, N, hn⟩ := S
  subst hst
  obtain ⟨cq, q1, q2⟩ := E.cell
  have hpr : s.PrivateAt y := Cond.privateMethod_at (mvP B.2.1 wp (args := #[]))
  have wsel : (Cond.selects y.cls y y).before args s = true := by
    obtain ⟨ci, ki, i1, i2, i3, i4, -⟩ := Cond.instantiable_spec (mvT B.2.1 wk (args := args))
    exact selects_self_of_private i1 i2 (Bool.or_eq_false_iff.mp i4).1 hpr (mvT B.2.1 wim) hy
  obtain ⟨v, _, ⟨T', L', k', n'⟩, -, X', ⟨Lc, ⟨hN, hQ⟩, l1, y1, z1⟩, stp⟩ := X.privateBack B.1 (y := y) B.2.2.2.2.1 (mvT B.2.1 wl) (mvT B.2.1 wim) wsel hpr (mvT B.2.1 wc) hy (Con.back (W := W) C hle B.2.1 wc wi hf hlo) (g := mkF m pc Ls (argsL.reverse ++ .ref b :: rest)) rfl (by rw [B.2.2.2.1]; exact hsz) (Steps.refl _) (a := b) (by rw [eT]; exact q1) q2 (argsL := argsL) (rest := rest) hlen rfl hW (B.d hd) (fun _ _ => ⟨rfl, eT, hc, hs⟩)
  dsimp only [Pt.U, Pt.locs, Pt.cells, Pt.slots] at X' l1 y1 z1 stp hQ
  subst l1 y1 z1
  exact Goes.go (fun t q => stp.trans q) (k v T' T'.heap ⟨_, X', rfl, N.app hN, hn⟩ hQ)
end Calls
/-! arrays: what lies at each place, as a function -/
def Ary (Z : State) (h : Heap) (a : Addr) (ty : FieldType) (n : Nat) (f : Nat → Value) : Prop := ∃ c : Cell, Arr Z h a c ty ∧ c.slots.size = n ∧ n < 2 ^ 31 ∧ ∀ i, i < n → c.slots[i]? = some (f i)
def aup {α : Type} (f : Nat → α) (i : Nat) (v : α) : Nat → α := fun k => if k = i then v else f k
theorem aup_int (g : Nat → Int32) (k : Nat) (x : Int32) : aup (fun i => Value.int (g i)) k (.int x) = fun i => .int (aup g k x i) := by
  funext i
  simp only [aup]
  split <;> rfl
theorem aup_long (g : Nat → Int64) (k : Nat) (x : Int64) : aup (fun i => Value.long (g i)) k (.long x) = fun i => .long (aup g k x i) := by
  funext i
  simp only [aup]
  split <;> rfl
section Arrays
variable {a b : Addr} {ty : FieldType} {n : Nat} {f : Nat → Value} {h' : Heap} {j : Int32} {v : Value} {sl : Nat} {ws : List Addr}
theorem Ary.lt (A : Ary Z h a ty n f) : a < h.size := by obtain ⟨c, A, -⟩ := A; exact A.lt
theorem Ary.ext (A : Ary Z h a ty n f) (E : Ext h h') : Ary Z h' a ty n f := by obtain ⟨c, A, r⟩ := A; exact ⟨c, A.ext E, r⟩
theorem Ary.other (A : Ary Z h b ty n f) (W : Wr h h' a sl v) (q : b ≠ a) : Ary Z h' b ty n f := by obtain ⟨c, A, r⟩ := A; exact ⟨c, A.other W q, r⟩
theorem Ary.keep (A : Ary Z h a ty n f) (K : Keep h h' ws) (q : a ∉ ws) : Ary Z h' a ty n f := by obtain ⟨c, A, r⟩ := A; exact ⟨c, ⟨K.2.1 a c A.1 q, A.2⟩, r⟩
theorem Ary.cast {g : Nat → Value} (A : Ary Z h a ty n f) (q : ∀ i, i < n → f i = g i) : Ary Z h a ty n g := by obtain ⟨c, A, r1, r2, r3⟩ := A; exact ⟨c, A, r1, r2, fun i hi => by rw [r3 i hi, q i hi]⟩
theorem Ary.new {z : Int32} {k : ClassId} (A : Arr Z h a (newA k ty z) ty) (q : ¬ z < 0) : Ary Z h a ty z.toNatClampNeg (fun _ => defaultValue ty) :=
  ⟨_, A, sz_new _ _ _, (back32 q).2, fun i hi => by simp [newA, hi]⟩
theorem Ary.set {i : Nat} (A : Ary Z h a ty n f) (W : Wr h h' a i v) (hi : i < n) : Ary Z h' a ty n (aup f i v) := by
  obtain ⟨c, A, r1, r2, r3⟩ := A
  refine ⟨_, A.same W, by rw [sz_set]; exact r1, r2, fun k hk => ?_⟩
  by_cases e : k = i
  · subst e
    simp [aup, Cell.setSlot, r1, hi]
  · have e' : i ≠ k := fun q => e q.symm
    simp only [aup, if_neg e, Cell.setSlot]
    rw [Array.getElem?_setIfInBounds_ne e']
    exact r3 k hk
theorem Goes.newP {aty : ArrayType} {z : Int32} {cap : Nat} (S : Sd p l e R s m args below meth c T h n0 cells slots) (B : Base p s m meth c Z y0 bytes0 maxL0 ret0) (w : (Cond.arrayClass (newarray.typeOf aty)).before a0 Z = true) (hd : decode bytes0 pc = .ok (.newarray aty, 2)) (hz : ¬ z < 0) (hcap : z.toNatClampNeg ≤ cap) (hb : cap * 8 ≤ 536870912) (hc : cells + 1 ≤ R.cells) (hl : slots + cap ≤ R.slots)
    (k : ∀ T' h' b, Sd p l e R s m args below meth c T' h' n0 (cells + 1) (slots + cap) → Ext h h' → b = h.size → n0 ≤ b → Ary Z h' b (newarray.typeOf aty) z.toNatClampNeg (fun _ => defaultValue (newarray.typeOf aty)) → Goes p.tables e below Φ T' (mkF m (pc + 2) Ls (.ref b :: rest))) :
    Goes p.tables e below Φ T (mkF m pc Ls (.int z :: rest)) := by
  have hle := S.le
  obtain ⟨locs, X, eT, N, hn⟩ := S
  obtain ⟨T', h', k', X', e', E, A, stp⟩ := RoadKit.newP X B.1 B.2.1 w eT (g := mkF m pc Ls (.int z :: rest)) rfl (B.d hd) rfl hz hcap hb hc hl
  exact Goes.go stp (k T' h' h.size ⟨locs, X', e', N, hn⟩ E rfl hle (Ary.new A hz))
theorem Goes.iaload (S : Sd p l e R s m args below meth c T h n0 cells slots) (B : Base p s m meth c Z y0 bytes0 maxL0 ret0) (A : Ary Z h a .int n f) (q0 : ¬ j < 0) (q1 : j.toNatClampNeg < n) (hd : decode bytes0 pc = .ok (.iaload, 1)) (hv : f j.toNatClampNeg = v) (k : Goes p.tables e below Φ T (mkF m (pc + 1) Ls (v :: rest))) : Goes p.tables e below Φ T (mkF m pc Ls (.int j :: .ref a :: rest)) := by
  obtain ⟨locs, X, eT, N, hn⟩ := S
  obtain ⟨cl, A, r1, r2, r3⟩ := A
  exact Goes.go (X.iaload B.1 (j := j) (v := v) (by rw [eT]; exact A.1) (State.isArrayOf_alike B.2.1.alike A.2.1) A.2.2 (by rw [r1]; exact fun z => z.elim q0 (Nat.not_le.mpr q1)) (by rw [r3 _ q1, hv]) (g := mkF m pc Ls (.int j :: .ref a :: rest)) rfl rfl (B.d hd)) k
theorem Goes.laload (S : Sd p l e R s m args below meth c T h n0 cells slots) (B : Base p s m meth c Z y0 bytes0 maxL0 ret0) (A : Ary Z h a .long n f) (q0 : ¬ j < 0) (q1 : j.toNatClampNeg < n) (hd : decode bytes0 pc = .ok (.laload, 1)) (hv : f j.toNatClampNeg = v) (k : Goes p.tables e below Φ T (mkF m (pc + 1) Ls (v :: rest))) : Goes p.tables e below Φ T (mkF m pc Ls (.int j :: .ref a :: rest)) := by
  obtain ⟨locs, X, eT, N, hn⟩ := S
  obtain ⟨cl, A, r1, r2, r3⟩ := A
  exact Goes.go (X.laload B.1 (j := j) (v := v) (by rw [eT]; exact A.1) (State.isArrayOf_alike B.2.1.alike A.2.1) A.2.2 (by rw [r1]; exact fun z => z.elim q0 (Nat.not_le.mpr q1)) (by rw [r3 _ q1, hv]) (g := mkF m pc Ls (.int j :: .ref a :: rest)) rfl rfl (B.d hd)) k
theorem Goes.baload (S : Sd p l e R s m args below meth c T h n0 cells slots) (B : Base p s m meth c Z y0 bytes0 maxL0 ret0) (A : Ary Z h a .byte n f) (q0 : ¬ j < 0) (q1 : j.toNatClampNeg < n) (hd : decode bytes0 pc = .ok (.baload, 1)) (hv : f j.toNatClampNeg = v) (k : Goes p.tables e below Φ T (mkF m (pc + 1) Ls (v :: rest))) : Goes p.tables e below Φ T (mkF m pc Ls (.int j :: .ref a :: rest)) := by
  obtain ⟨locs, X, eT, N, hn⟩ := S
  obtain ⟨cl, A, r1, r2, r3⟩ := A
  exact Goes.go (X.baloadBytes B.1 (j := j) (v := v) (by rw [eT]; exact A.1) (State.isArrayOf_alike B.2.1.alike A.2.1) A.2.2 (by rw [r1]; exact fun z => z.elim q0 (Nat.not_le.mpr q1)) (by rw [r3 _ q1, hv]) (g := mkF m pc Ls (.int j :: .ref a :: rest)) rfl rfl (B.d hd)) k
theorem Goes.zaload (S : Sd p l e R s m args below meth c T h n0 cells slots) (B : Base p s m meth c Z y0 bytes0 maxL0 ret0) (A : Ary Z h a .boolean n f) (q0 : ¬ j < 0) (q1 : j.toNatClampNeg < n) (hd : decode bytes0 pc = .ok (.baload, 1)) (hv : f j.toNatClampNeg = v) (k : Goes p.tables e below Φ T (mkF m (pc + 1) Ls (v :: rest))) : Goes p.tables e below Φ T (mkF m pc Ls (.int j :: .ref a :: rest)) := by
  obtain ⟨locs, X, eT, N, hn⟩ := S
  obtain ⟨cl, A, r1, r2, r3⟩ := A
  exact Goes.go (X.baloadBooleans B.1 (j := j) (v := v) (by rw [eT]; exact A.1) (State.isArrayOf_alike B.2.1.alike A.2.1) A.2.2 (by rw [r1]; exact fun z => z.elim q0 (Nat.not_le.mpr q1)) (by rw [r3 _ q1, hv]) (g := mkF m pc Ls (.int j :: .ref a :: rest)) rfl rfl (B.d hd)) k
theorem Goes.alen (S : Sd p l e R s m args below meth c T h n0 cells slots) (B : Base p s m meth c Z y0 bytes0 maxL0 ret0) (A : Ary Z h a ty n f) {z : Int32} (hz : n.toInt32 = z) (hd : decode bytes0 pc = .ok (.arraylength, 1)) (k : Goes p.tables e below Φ T (mkF m (pc + 1) Ls (.int z :: rest))) : Goes p.tables e below Φ T (mkF m pc Ls (.ref a :: rest)) := by
  obtain ⟨locs, X, eT, N, hn⟩ := S
  obtain ⟨cl, A, r1, r2, r3⟩ := A
  subst r1 hz
  exact Goes.go (X.arraylength B.1 (by rw [eT]; exact A.1) (State.isArrayOf_alike B.2.1.alike A.2.1) (g := mkF m pc Ls (.ref a :: rest)) rfl rfl (B.d hd)) k
theorem Goes.iastore {x : Int32} (S : Sd p l e R s m args below meth c T h n0 cells slots) (B : Base p s m meth c Z y0 bytes0 maxL0 ret0) (A : Ary Z h a .int n f) (q0 : ¬ j < 0) (q1 : j.toNatClampNeg < n) (ga : n0 ≤ a) (hd : decode bytes0 pc = .ok (.iastore, 1))
    (k : ∀ T' h', Sd p l e R s m args below meth c T' h' n0 cells slots → Wr h h' a j.toNatClampNeg (.int x) → Ary Z h' a .int n (aup f j.toNatClampNeg (.int x)) → Goes p.tables e below Φ T' (mkF m (pc + 1) Ls rest)) : Goes p.tables e below Φ T (mkF m pc Ls (.int x :: .int j :: .ref a :: rest)) := by
  obtain ⟨locs, X, eT, N, hn⟩ := S
  have A' := A
  obtain ⟨cl, A, r1, r2, r3⟩ := A
  obtain ⟨T', h', X', e', W, stp⟩ := RoadKit.stI X B.1 B.2.1 eT A (j := j) (by rw [r1]; exact fun z => z.elim q0 (Nat.not_le.mpr q1)) (g := mkF m pc Ls (.int x :: .int j :: .ref a :: rest)) rfl rfl (B.d hd)
  exact Goes.go stp (k T' h' ⟨_, X', e', Fr.snoc X' N ga, hn⟩ W (A'.set W q1))
theorem Goes.lastore {x : Int64} (S : Sd p l e R s m args below meth c T h n0 cells slots) (B : Base p s m meth c Z y0 bytes0 maxL0 ret0) (A : Ary Z h a .long n f) (q0 : ¬ j < 0) (q1 : j.toNatClampNeg < n) (ga : n0 ≤ a) (hd : decode bytes0 pc = .ok (.lastore, 1))
    (k : ∀ T' h', Sd p l e R s m args below meth c T' h' n0 cells slots → Wr h h' a j.toNatClampNeg (.long x) → Ary Z h' a .long n (aup f j.toNatClampNeg (.long x)) → Goes p.tables e below Φ T' (mkF m (pc + 1) Ls rest)) : Goes p.tables e below Φ T (mkF m pc Ls (.long x :: .int j :: .ref a :: rest)) := by
  obtain ⟨locs, X, eT, N, hn⟩ := S
  have A' := A
  obtain ⟨cl, A, r1, r2, r3⟩ := A
  obtain ⟨T', h', X', e', W, stp⟩ := RoadKit.stJ X B.1 B.2.1 eT A (j := j) (by rw [r1]; exact fun z => z.elim q0 (Nat.not_le.mpr q1)) (g := mkF m pc Ls (.long x :: .int j :: .ref a :: rest)) rfl rfl (B.d hd)
  exact Goes.go stp (k T' h' ⟨_, X', e', Fr.snoc X' N ga, hn⟩ W (A'.set W q1))
theorem Goes.bastore {x : Int32} (S : Sd p l e R s m args below meth c T h n0 cells slots) (B : Base p s m meth c Z y0 bytes0 maxL0 ret0) (A : Ary Z h a .byte n f) (q0 : ¬ j < 0) (q1 : j.toNatClampNeg < n) (ga : n0 ≤ a) (hd : decode bytes0 pc = .ok (.bastore, 1))
    (k : ∀ T' h', Sd p l e R s m args below meth c T' h' n0 cells slots → Wr h h' a j.toNatClampNeg (.int (nar .byte x)) → Ary Z h' a .byte n (aup f j.toNatClampNeg (.int (nar .byte x))) → Goes p.tables e below Φ T' (mkF m (pc + 1) Ls rest)) : Goes p.tables e below Φ T (mkF m pc Ls (.int x :: .int j :: .ref a :: rest)) := by
  obtain ⟨locs, X, eT, N, hn⟩ := S
  have A' := A
  obtain ⟨cl, A, r1, r2, r3⟩ := A
  obtain ⟨T', h', X', e', W, stp⟩ := RoadKit.stB X B.1 B.2.1 eT A (j := j) (by rw [r1]; exact fun z => z.elim q0 (Nat.not_le.mpr q1)) (g := mkF m pc Ls (.int x :: .int j :: .ref a :: rest)) rfl rfl (B.d hd)
  exact Goes.go stp (k T' h' ⟨_, X', e', Fr.snoc X' N ga, hn⟩ W (A'.set W q1))
theorem Goes.zastore {x : Int32} (S : Sd p l e R s m args below meth c T h n0 cells slots) (B : Base p s m meth c Z y0 bytes0 maxL0 ret0) (A : Ary Z h a .boolean n f) (q0 : ¬ j < 0) (q1 : j.toNatClampNeg < n) (ga : n0 ≤ a) (hd : decode bytes0 pc = .ok (.bastore, 1))
    (k : ∀ T' h', Sd p l e R s m args below meth c T' h' n0 cells slots → Wr h h' a j.toNatClampNeg (.int (nar .boolean x)) → Ary Z h' a .boolean n (aup f j.toNatClampNeg (.int (nar .boolean x))) → Goes p.tables e below Φ T' (mkF m (pc + 1) Ls rest)) : Goes p.tables e below Φ T (mkF m pc Ls (.int x :: .int j :: .ref a :: rest)) := by
  obtain ⟨locs, X, eT, N, hn⟩ := S
  have A' := A
  obtain ⟨cl, A, r1, r2, r3⟩ := A
  obtain ⟨T', h', X', e', W, stp⟩ := RoadKit.stZ X B.1 B.2.1 eT A (j := j) (by rw [r1]; exact fun z => z.elim q0 (Nat.not_le.mpr q1)) (g := mkF m pc Ls (.int x :: .int j :: .ref a :: rest)) rfl rfl (B.d hd)
  exact Goes.go stp (k T' h' ⟨_, X', e', Fr.snoc X' N ga, hn⟩ W (A'.set W q1))
end Arrays
end Lay
end Jvm.OwnKit
namespace Jvm.Pilot.@@N@@
open Jvm Jvm.ClassFile Sem Op Lib Jvm.Free Jvm.Stand Jvm.LawKit Jvm.RoadKit Jvm.OwnKit Bundle Jvm.Pilot.@@N@@.Jvm.D
theorem w0 {Z : State} {a0 : Array Value} (hw : ∀ d ∈ tables_1, d.before a0 Z = true) : ((Jvm.Cond.arrayClass Jvm.ClassFile.FieldType.byte) : Jvm.Cond).before a0 Z = true := hw _ (List.mem_of_getElem? (i := 0) rfl)
theorem w1 {Z : State} {a0 : Array Value} (hw : ∀ d ∈ tables_1, d.before a0 Z = true) : ((Jvm.Cond.classLink "com/example/cardwarden/cardwarden/CommandApduIsSelectByAidPinLaw" (7 : Nat) "com/example/cardwarden/cardwarden/CommandApdu") : Jvm.Cond).before a0 Z = true := hw _ (List.mem_of_getElem? (i := 1) rfl)
theorem w2 {Z : State} {a0 : Array Value} (hw : ∀ d ∈ tables_1, d.before a0 Z = true) : ((Jvm.Cond.instantiable "com/example/cardwarden/cardwarden/CommandApdu" (3 : Nat)) : Jvm.Cond).before a0 Z = true := hw _ (List.mem_of_getElem? (i := 2) rfl)
theorem w3 {Z : State} {a0 : Array Value} (hw : ∀ d ∈ tables_1, d.before a0 Z = true) : ((Jvm.Cond.initialized "com/example/cardwarden/cardwarden/CommandApdu") : Jvm.Cond).before a0 Z = true := hw _ (List.mem_of_getElem? (i := 3) rfl)
theorem w4 {Z : State} {a0 : Array Value} (hw : ∀ d ∈ tables_1, d.before a0 Z = true) : ((Jvm.Cond.methodLink "com/example/cardwarden/cardwarden/CommandApduIsSelectByAidPinLaw" (9 : Nat) ({ cls := "com/example/cardwarden/cardwarden/CommandApdu", name := "<init>", desc := "([BII)V" } : Jvm.MethodName)) : Jvm.Cond).before a0 Z = true := hw _ (List.mem_of_getElem? (i := 4) rfl)
theorem w5 {Z : State} {a0 : Array Value} (hw : ∀ d ∈ tables_1, d.before a0 Z = true) : ((Jvm.Cond.instanceMethod ({ cls := "com/example/cardwarden/cardwarden/CommandApdu", name := "<init>", desc := "([BII)V" } : Jvm.MethodName)) : Jvm.Cond).before a0 Z = true := hw _ (List.mem_of_getElem? (i := 5) rfl)
theorem w6 {Z : State} {a0 : Array Value} (hw : ∀ d ∈ tables_1, d.before a0 Z = true) : ((Jvm.Cond.code ({ cls := "com/example/cardwarden/cardwarden/CommandApdu", name := "<init>", desc := "([BII)V" } : Jvm.MethodName) prog_28_method_1_code (4 : Nat) (Option.none : Option Jvm.ClassFile.FieldType)) : Jvm.Cond).before a0 Z = true := hw _ (List.mem_of_getElem? (i := 6) rfl)
theorem w7 {Z : State} {a0 : Array Value} (hw : ∀ d ∈ tables_1, d.before a0 Z = true) : ((Jvm.Cond.methodLink "com/example/cardwarden/cardwarden/CommandApdu" (1 : Nat) ({ cls := "java/lang/Record", name := "<init>", desc := "()V" } : Jvm.MethodName)) : Jvm.Cond).before a0 Z = true := hw _ (List.mem_of_getElem? (i := 7) rfl)
theorem w8 {Z : State} {a0 : Array Value} (hw : ∀ d ∈ tables_1, d.before a0 Z = true) : ((Jvm.Cond.instanceMethod ({ cls := "java/lang/Record", name := "<init>", desc := "()V" } : Jvm.MethodName)) : Jvm.Cond).before a0 Z = true := hw _ (List.mem_of_getElem? (i := 8) rfl)
theorem w10 {Z : State} {a0 : Array Value} (hw : ∀ d ∈ tables_1, d.before a0 Z = true) : ((Jvm.Cond.initialized "java/lang/Record") : Jvm.Cond).before a0 Z = true := hw _ (List.mem_of_getElem? (i := 10) rfl)
theorem w11 {Z : State} {a0 : Array Value} (hw : ∀ d ∈ tables_1, d.before a0 Z = true) : ((Jvm.Cond.code ({ cls := "java/lang/Record", name := "<init>", desc := "()V" } : Jvm.MethodName) jdk_30_method_1_code (1 : Nat) (Option.none : Option Jvm.ClassFile.FieldType)) : Jvm.Cond).before a0 Z = true := hw _ (List.mem_of_getElem? (i := 11) rfl)
theorem w12 {Z : State} {a0 : Array Value} (hw : ∀ d ∈ tables_1, d.before a0 Z = true) : ((Jvm.Cond.methodLink "java/lang/Record" (1 : Nat) ({ cls := "java/lang/Object", name := "<init>", desc := "()V" } : Jvm.MethodName)) : Jvm.Cond).before a0 Z = true := hw _ (List.mem_of_getElem? (i := 12) rfl)
theorem w13 {Z : State} {a0 : Array Value} (hw : ∀ d ∈ tables_1, d.before a0 Z = true) : ((Jvm.Cond.instanceMethod ({ cls := "java/lang/Object", name := "<init>", desc := "()V" } : Jvm.MethodName)) : Jvm.Cond).before a0 Z = true := hw _ (List.mem_of_getElem? (i := 13) rfl)
theorem w14 {Z : State} {a0 : Array Value} (hw : ∀ d ∈ tables_1, d.before a0 Z = true) : ((Jvm.Cond.code ({ cls := "java/lang/Object", name := "<init>", desc := "()V" } : Jvm.MethodName) object_method_1_code (1 : Nat) (Option.none : Option Jvm.ClassFile.FieldType)) : Jvm.Cond).before a0 Z = true := hw _ (List.mem_of_getElem? (i := 14) rfl)
theorem w15 {Z : State} {a0 : Array Value} (hw : ∀ d ∈ tables_1, d.before a0 Z = true) : ((Jvm.Cond.fieldLink "com/example/cardwarden/cardwarden/CommandApdu" (7 : Nat) "com/example/cardwarden/cardwarden/CommandApdu" "bytes" "[B") : Jvm.Cond).before a0 Z = true := hw _ (List.mem_of_getElem? (i := 15) rfl)
theorem w16 {Z : State} {a0 : Array Value} (hw : ∀ d ∈ tables_1, d.before a0 Z = true) : ((Jvm.Cond.laysFinal "com/example/cardwarden/cardwarden/CommandApdu" "com/example/cardwarden/cardwarden/CommandApdu" "bytes" "[B") : Jvm.Cond).before a0 Z = true := hw _ (List.mem_of_getElem? (i := 16) rfl)
theorem w17 {Z : State} {a0 : Array Value} (hw : ∀ d ∈ tables_1, d.before a0 Z = true) : ((Jvm.Cond.fieldLink "com/example/cardwarden/cardwarden/CommandApdu" (13 : Nat) "com/example/cardwarden/cardwarden/CommandApdu" "lc" "I") : Jvm.Cond).before a0 Z = true := hw _ (List.mem_of_getElem? (i := 17) rfl)
theorem w18 {Z : State} {a0 : Array Value} (hw : ∀ d ∈ tables_1, d.before a0 Z = true) : ((Jvm.Cond.laysFinal "com/example/cardwarden/cardwarden/CommandApdu" "com/example/cardwarden/cardwarden/CommandApdu" "lc" "I") : Jvm.Cond).before a0 Z = true := hw _ (List.mem_of_getElem? (i := 18) rfl)
theorem w19 {Z : State} {a0 : Array Value} (hw : ∀ d ∈ tables_1, d.before a0 Z = true) : ((Jvm.Cond.fieldLink "com/example/cardwarden/cardwarden/CommandApdu" (17 : Nat) "com/example/cardwarden/cardwarden/CommandApdu" "ne" "I") : Jvm.Cond).before a0 Z = true := hw _ (List.mem_of_getElem? (i := 19) rfl)
theorem w20 {Z : State} {a0 : Array Value} (hw : ∀ d ∈ tables_1, d.before a0 Z = true) : ((Jvm.Cond.laysFinal "com/example/cardwarden/cardwarden/CommandApdu" "com/example/cardwarden/cardwarden/CommandApdu" "ne" "I") : Jvm.Cond).before a0 Z = true := hw _ (List.mem_of_getElem? (i := 20) rfl)
theorem w21 {Z : State} {a0 : Array Value} (hw : ∀ d ∈ tables_1, d.before a0 Z = true) : ((Jvm.Cond.methodLink "com/example/cardwarden/cardwarden/CommandApduIsSelectByAidPinLaw" (12 : Nat) ({ cls := "com/example/cardwarden/cardwarden/CommandApdu", name := "isSelectByAid", desc := "()Z" } : Jvm.MethodName)) : Jvm.Cond).before a0 Z = true := hw _ (List.mem_of_getElem? (i := 21) rfl)
theorem w22 {Z : State} {a0 : Array Value} (hw : ∀ d ∈ tables_1, d.before a0 Z = true) : ((Jvm.Cond.declares ({ cls := "com/example/cardwarden/cardwarden/CommandApdu", name := "isSelectByAid", desc := "()Z" } : Jvm.MethodName)) : Jvm.Cond).before a0 Z = true := hw _ (List.mem_of_getElem? (i := 22) rfl)
theorem w23 {Z : State} {a0 : Array Value} (hw : ∀ d ∈ tables_1, d.before a0 Z = true) : ((Jvm.Cond.instanceMethod ({ cls := "com/example/cardwarden/cardwarden/CommandApdu", name := "isSelectByAid", desc := "()Z" } : Jvm.MethodName)) : Jvm.Cond).before a0 Z = true := hw _ (List.mem_of_getElem? (i := 23) rfl)
theorem w24 {Z : State} {a0 : Array Value} (hw : ∀ d ∈ tables_1, d.before a0 Z = true) : ((Jvm.Cond.selects "com/example/cardwarden/cardwarden/CommandApdu" ({ cls := "com/example/cardwarden/cardwarden/CommandApdu", name := "isSelectByAid", desc := "()Z" } : Jvm.MethodName) ({ cls := "com/example/cardwarden/cardwarden/CommandApdu", name := "isSelectByAid", desc := "()Z" } : Jvm.MethodName)) : Jvm.Cond).before a0 Z = true := hw _ (List.mem_of_getElem? (i := 24) rfl)
theorem w25 {Z : State} {a0 : Array Value} (hw : ∀ d ∈ tables_1, d.before a0 Z = true) : ((Jvm.Cond.code ({ cls := "com/example/cardwarden/cardwarden/CommandApdu", name := "isSelectByAid", desc := "()Z" } : Jvm.MethodName) prog_28_method_5_code (1 : Nat) (Option.some Jvm.ClassFile.FieldType.boolean)) : Jvm.Cond).before a0 Z = true := hw _ (List.mem_of_getElem? (i := 25) rfl)
theorem w26 {Z : State} {a0 : Array Value} (hw : ∀ d ∈ tables_1, d.before a0 Z = true) : ((Jvm.Cond.constant "com/example/cardwarden/cardwarden/CommandApduIsSelectByAidPinLaw" (16 : Nat) (10748928 : Int32)) : Jvm.Cond).before a0 Z = true := hw _ (List.mem_of_getElem? (i := 26) rfl)
theorem d_jdk_30_method_1_0 : decode jdk_30_method_1_code 0 = .ok (.aload_n 0, 1) := by decide +kernel
theorem d_jdk_30_method_1_1 : decode jdk_30_method_1_code 1 = .ok (.invokespecial 1, 3) := by decide +kernel
theorem d_jdk_30_method_1_4 : decode jdk_30_method_1_code 4 = .ok (.return_, 1) := by decide +kernel
theorem d_prog_28_method_1_0 : decode prog_28_method_1_code 0 = .ok (.aload_n 0, 1) := by decide +kernel
theorem d_prog_28_method_1_1 : decode prog_28_method_1_code 1 = .ok (.invokespecial 1, 3) := by decide +kernel
theorem d_prog_28_method_1_4 : decode prog_28_method_1_code 4 = .ok (.aload_n 0, 1) := by decide +kernel
theorem d_prog_28_method_1_5 : decode prog_28_method_1_code 5 = .ok (.aload_n 1, 1) := by decide +kernel
theorem d_prog_28_method_1_6 : decode prog_28_method_1_code 6 = .ok (.putfield 7, 3) := by decide +kernel
theorem d_prog_28_method_1_9 : decode prog_28_method_1_code 9 = .ok (.aload_n 0, 1) := by decide +kernel
theorem d_prog_28_method_1_10 : decode prog_28_method_1_code 10 = .ok (.iload_n 2, 1) := by decide +kernel
theorem d_prog_28_method_1_11 : decode prog_28_method_1_code 11 = .ok (.putfield 13, 3) := by decide +kernel
theorem d_prog_28_method_1_14 : decode prog_28_method_1_code 14 = .ok (.aload_n 0, 1) := by decide +kernel
theorem d_prog_28_method_1_15 : decode prog_28_method_1_code 15 = .ok (.iload_n 3, 1) := by decide +kernel
theorem d_prog_28_method_1_16 : decode prog_28_method_1_code 16 = .ok (.putfield 17, 3) := by decide +kernel
theorem d_prog_28_method_1_19 : decode prog_28_method_1_code 19 = .ok (.return_, 1) := by decide +kernel
theorem d_prog_28_method_5_0 : decode prog_28_method_5_code 0 = .ok (.aload_n 0, 1) := by decide +kernel
theorem d_prog_28_method_5_1 : decode prog_28_method_5_code 1 = .ok (.getfield 7, 3) := by decide +kernel
theorem d_prog_28_method_5_4 : decode prog_28_method_5_code 4 = .ok (.iconst 0, 1) := by decide +kernel
theorem d_prog_28_method_5_5 : decode prog_28_method_5_code 5 = .ok (.baload, 1) := by decide +kernel
theorem d_prog_28_method_5_6 : decode prog_28_method_5_code 6 = .ok (.ifCond .ne 37, 3) := by decide +kernel
theorem d_prog_28_method_5_9 : decode prog_28_method_5_code 9 = .ok (.aload_n 0, 1) := by decide +kernel
theorem d_prog_28_method_5_10 : decode prog_28_method_5_code 10 = .ok (.getfield 7, 3) := by decide +kernel
theorem d_prog_28_method_5_13 : decode prog_28_method_5_code 13 = .ok (.iconst 1, 1) := by decide +kernel
theorem d_prog_28_method_5_14 : decode prog_28_method_5_code 14 = .ok (.baload, 1) := by decide +kernel
theorem d_prog_28_method_5_15 : decode prog_28_method_5_code 15 = .ok (.bipush (-92), 2) := by decide +kernel
theorem d_prog_28_method_5_17 : decode prog_28_method_5_code 17 = .ok (.if_icmp .ne 26, 3) := by decide +kernel
theorem d_prog_28_method_5_20 : decode prog_28_method_5_code 20 = .ok (.aload_n 0, 1) := by decide +kernel
theorem d_prog_28_method_5_21 : decode prog_28_method_5_code 21 = .ok (.getfield 7, 3) := by decide +kernel
theorem d_prog_28_method_5_24 : decode prog_28_method_5_code 24 = .ok (.iconst 2, 1) := by decide +kernel
theorem d_prog_28_method_5_25 : decode prog_28_method_5_code 25 = .ok (.baload, 1) := by decide +kernel
theorem d_prog_28_method_5_26 : decode prog_28_method_5_code 26 = .ok (.iconst 4, 1) := by decide +kernel
theorem d_prog_28_method_5_27 : decode prog_28_method_5_code 27 = .ok (.if_icmp .ne 16, 3) := by decide +kernel
theorem d_prog_28_method_5_30 : decode prog_28_method_5_code 30 = .ok (.aload_n 0, 1) := by decide +kernel
theorem d_prog_28_method_5_31 : decode prog_28_method_5_code 31 = .ok (.getfield 7, 3) := by decide +kernel
theorem d_prog_28_method_5_34 : decode prog_28_method_5_code 34 = .ok (.iconst 3, 1) := by decide +kernel
theorem d_prog_28_method_5_35 : decode prog_28_method_5_code 35 = .ok (.baload, 1) := by decide +kernel
theorem d_prog_28_method_5_36 : decode prog_28_method_5_code 36 = .ok (.ifCond .ne 7, 3) := by decide +kernel
theorem d_prog_28_method_5_39 : decode prog_28_method_5_code 39 = .ok (.iconst 1, 1) := by decide +kernel
theorem d_prog_28_method_5_40 : decode prog_28_method_5_code 40 = .ok (.goto 4, 3) := by decide +kernel
theorem d_prog_28_method_5_43 : decode prog_28_method_5_code 43 = .ok (.iconst 0, 1) := by decide +kernel
theorem d_prog_28_method_5_44 : decode prog_28_method_5_code 44 = .ok (.ireturn, 1) := by decide +kernel
theorem pd_0 : parseMethodDescriptor "()V" = some ⟨[], none⟩ := by decide +kernel
theorem pd_1 : parseMethodDescriptor "([BII)V" = some ⟨[(.array .byte), .int, .int], none⟩ := by decide +kernel
theorem pd_2 : parseMethodDescriptor "()Z" = some ⟨[], some .boolean⟩ := by decide +kernel
theorem pn_0 : plainName "java/lang/Record" = true := by first | (simp [plainName, overriddenIn]; done) | decide +kernel
theorem pn_1 : plainName "com/example/cardwarden/cardwarden/CommandApdu" = true := by first | (simp [plainName, overriddenIn]; done) | decide +kernel
theorem pn_2 : plainName "com/example/cardwarden/cardwarden/CommandApduIsSelectByAidPinLaw" = true := by first | (simp [plainName, overriddenIn]; done) | decide +kernel
theorem n_inj32 {x y : Int32} (h : x.toBitVec.toNat = y.toBitVec.toNat) : x = y := Int32.toBitVec_inj.mp (BitVec.eq_of_toNat_eq h)
theorem n_inj64 {x y : Int64} (h : x.toBitVec.toNat = y.toBitVec.toNat) : x = y := Int64.toBitVec_inj.mp (BitVec.eq_of_toNat_eq h)
theorem or_add (a b k : Nat) (h : b < 2 ^ k) : a * 2 ^ k ||| b = a * 2 ^ k + b := by
  rw [← Nat.shiftLeft_eq, Nat.shiftLeft_add_eq_or_of_lt h]
theorem n_or (x y : Int64) : (x ||| y).toBitVec.toNat = x.toBitVec.toNat ||| y.toBitVec.toNat := by rw [Int64.toBitVec_or, BitVec.toNat_or]
theorem n_or32 (x y : Int32) : (x ||| y).toBitVec.toNat = x.toBitVec.toNat ||| y.toBitVec.toNat := by rw [Int32.toBitVec_or, BitVec.toNat_or]
theorem n_maskL (x m : Int64) (k : Nat) (hk : k ≤ 64) (hm : m.toBitVec.toNat = 2 ^ k - 1) : (x &&& m).toBitVec.toNat = x.toBitVec.toNat % 2 ^ k := by
  rw [Int64.toBitVec_and, BitVec.toNat_and, hm, Nat.and_two_pow_sub_one_eq_mod]
theorem n_mask (x m : Int32) (k : Nat) (hk : k ≤ 32) (hm : m.toBitVec.toNat = 2 ^ k - 1) : (x &&& m).toBitVec.toNat = x.toBitVec.toNat % 2 ^ k := by
  rw [Int32.toBitVec_and, BitVec.toNat_and, hm, Nat.and_two_pow_sub_one_eq_mod]
theorem n_shl (x q : Int64) (k : Nat) (hk : (q.toBitVec.smod 64).toNat = k) : (x <<< q).toBitVec.toNat = x.toBitVec.toNat * 2 ^ k % 2 ^ 64 := by
  rw [Int64.toBitVec_shiftLeft, BitVec.shiftLeft_eq', BitVec.toNat_shiftLeft, Nat.shiftLeft_eq, hk]
theorem n_lushr (x : Int64) (q : UInt64) (k : Nat) (hk : q.toNat % 64 = k) : ((x.toUInt64 >>> q).toInt64).toBitVec.toNat = x.toBitVec.toNat / 2 ^ k := by
  show (x.toUInt64 >>> q).toNat = _
  rw [UInt64.toNat_shiftRight, hk, Nat.shiftRight_eq_div_pow]
  rfl
theorem n_iushr (x : Int32) (q : UInt32) (k : Nat) (hk : q.toNat % 32 = k) : ((x.toUInt32 >>> q).toInt32).toBitVec.toNat = x.toBitVec.toNat / 2 ^ k := by
  show (x.toUInt32 >>> q).toNat = _
  rw [UInt32.toNat_shiftRight, hk, Nat.shiftRight_eq_div_pow]
  rfl
theorem n_l2i (x : Int64) : x.toInt32.toBitVec.toNat = x.toBitVec.toNat % 2 ^ 32 := by
  show (x.toBitVec.signExtend 32).toNat = _
  rw [BitVec.signExtend_eq_setWidth_of_le _ (by omega), BitVec.toNat_setWidth]
theorem n_i2l (x : Int32) : x.toInt64.toBitVec.toNat = x.toBitVec.toNat + if 2 ^ 31 ≤ x.toBitVec.toNat then 2 ^ 64 - 2 ^ 32 else 0 := by
  show (x.toBitVec.signExtend 64).toNat = _
  rw [BitVec.toNat_signExtend, BitVec.toNat_setWidth, BitVec.msb_eq_decide]
  have hx : x.toBitVec.toNat < 2 ^ 32 := x.toBitVec.isLt
  rw [Nat.mod_eq_of_lt (by omega)]
  simp
theorem n_ishl (x q : Int32) (k : Nat) (hk : (q.toBitVec.smod 32).toNat = k) : (x <<< q).toBitVec.toNat = x.toBitVec.toNat * 2 ^ k % 2 ^ 32 := by
  rw [Int32.toBitVec_shiftLeft, BitVec.shiftLeft_eq', BitVec.toNat_shiftLeft, Nat.shiftLeft_eq, hk]
theorem n_toInt (x : Int32) : x.toInt = if x.toBitVec.toNat < 2147483648 then (x.toBitVec.toNat : Int) else (x.toBitVec.toNat : Int) - 4294967296 := by
  have h : x.toInt = if 2 * x.toBitVec.toNat < 2 ^ 32 then (x.toBitVec.toNat : Int) else (x.toBitVec.toNat : Int) - (2 ^ 32 : Nat) := BitVec.toInt_eq_toNat_cond x.toBitVec
  rw [h]
  split <;> split <;> omega
theorem n_lt (x : Int32) : x.toBitVec.toNat < 4294967296 := x.toBitVec.isLt
theorem n_add (x y : Int32) : (x + y).toBitVec.toNat = (x.toBitVec.toNat + y.toBitVec.toNat) % 4294967296 := by rw [Int32.toBitVec_add, BitVec.toNat_add]
theorem n_addL (x y : Int64) : (x + y).toBitVec.toNat = (x.toBitVec.toNat + y.toBitVec.toNat) % 18446744073709551616 := by rw [Int64.toBitVec_add, BitVec.toNat_add]
theorem n_xor (x y : Int32) : (x ^^^ y).toBitVec.toNat = x.toBitVec.toNat ^^^ y.toBitVec.toNat := by rw [Int32.toBitVec_xor, BitVec.toNat_xor]
theorem n_xorL (x y : Int64) : (x ^^^ y).toBitVec.toNat = x.toBitVec.toNat ^^^ y.toBitVec.toNat := by rw [Int64.toBitVec_xor, BitVec.toNat_xor]
theorem n_tm (x : Int32) : (x.toBitVec.toNat : Int) % 256 = x.toInt % 256 := by
  have h := n_toInt x
  split at h <;> omega
theorem n_tm2 (x : Int32) : (x.toBitVec.toNat : Int) % 65536 = x.toInt % 65536 := by
  have h := n_toInt x
  split at h <;> omega

theorem own_nb (x : Int32) : nar .byte x.toInt8.toInt32 = x.toInt8.toInt32 := by simp [nar]
theorem own_v {x y : Int32} (h : nar .byte x = y) : (Value.int (nar .byte x)) = .int y := by rw [h]
theorem own_br (x : Int32) (h : nar .byte x = x) : -128 ≤ x.toInt ∧ x.toInt < 128 := by
  have := c_i2b x
  have e : nar .byte x = x.toInt8.toInt32 := rfl
  rw [← e, h] at this
  omega
theorem own_cat4 (a b c d : Nat) : ((a % 2 ^ 8 * 2 ^ 24 % 2 ^ 32 ||| b % 2 ^ 8 * 2 ^ 16 % 2 ^ 32) ||| c % 2 ^ 8 * 2 ^ 8 % 2 ^ 32) ||| d % 2 ^ 8 = a % 256 * 16777216 + b % 256 * 65536 + c % 256 * 256 + d % 256 := by
  have ha : a % 2 ^ 8 < 256 := Nat.mod_lt _ (by omega)
  have hb : b % 2 ^ 8 < 256 := Nat.mod_lt _ (by omega)
  have hc : c % 2 ^ 8 < 256 := Nat.mod_lt _ (by omega)
  have hd : d % 2 ^ 8 < 256 := Nat.mod_lt _ (by omega)
  rw [show (256 : Nat) = 2 ^ 8 from rfl]
  generalize a % 2 ^ 8 = a at *
  generalize b % 2 ^ 8 = b at *
  generalize c % 2 ^ 8 = c at *
  generalize d % 2 ^ 8 = d at *
  rw [Nat.mod_eq_of_lt (by omega : a * 2 ^ 24 < 2 ^ 32), Nat.mod_eq_of_lt (by omega : b * 2 ^ 16 < 2 ^ 32), Nat.mod_eq_of_lt (by omega : c * 2 ^ 8 < 2 ^ 32), or_add _ _ 24 (by omega)]
  rw [show a * 2 ^ 24 + b * 2 ^ 16 = (a * 256 + b) * 2 ^ 16 from by omega, or_add _ _ 16 (by omega)]
  rw [show (a * 256 + b) * 2 ^ 16 + c * 2 ^ 8 = (a * 65536 + b * 256 + c) * 2 ^ 8 from by omega, or_add _ _ 8 (by omega)]
  all_goals omega
theorem own_byt (x : Int32) (h : -128 ≤ x.toInt ∧ x.toInt < 128) (k : Nat) (hk : x.toBitVec.toNat % 256 = k) : x.toInt = if k < 128 then (k : Int) else (k : Int) - 256 := by
  have i := n_toInt x
  have l := n_lt x
  generalize x.toBitVec.toNat = n at *
  generalize x.toInt = z at *
  subst hk
  split at i <;> split <;> omega
theorem own_sel (c0 c1 c2 c3 : Int32) (h0 : nar .byte c0 = c0) (h1 : nar .byte c1 = c1) (h2 : nar .byte c2 = c2) (h3 : nar .byte c3 = c3) : (c0 = (0 : Int32) ∧ c1 = (-92 : Int32) ∧ c2 = (4 : Int32) ∧ c3 = (0 : Int32)) ↔ (((((c0 &&& (255 : Int32)) <<< ((24 : Int32) &&& 31)) ||| ((c1 &&& (255 : Int32)) <<< ((16 : Int32) &&& 31))) ||| ((c2 &&& (255 : Int32)) <<< ((8 : Int32) &&& 31))) ||| (c3 &&& (255 : Int32))) = (10748928 : Int32) := by
  have b0 := own_br c0 h0
  have b1 := own_br c1 h1
  have b2 := own_br c2 h2
  have b3 := own_br c3 h3
  have hh : ((((((c0 &&& (255 : Int32)) <<< ((24 : Int32) &&& 31)) ||| ((c1 &&& (255 : Int32)) <<< ((16 : Int32) &&& 31))) ||| ((c2 &&& (255 : Int32)) <<< ((8 : Int32) &&& 31))) ||| (c3 &&& (255 : Int32)))).toBitVec.toNat = c0.toBitVec.toNat % 256 * 16777216 + c1.toBitVec.toNat % 256 * 65536 + c2.toBitVec.toNat % 256 * 256 + c3.toBitVec.toNat % 256 := by
    rw [n_or32, n_or32, n_or32, n_ishl _ _ 24 (by decide), n_ishl _ _ 16 (by decide), n_ishl _ _ 8 (by decide), n_mask c0 255 8 (by omega) (by decide), n_mask c1 255 8 (by omega) (by decide), n_mask c2 255 8 (by omega) (by decide), n_mask c3 255 8 (by omega) (by decide)]
    exact own_cat4 _ _ _ _
  have hk : (10748928 : Int32).toBitVec.toNat = 10748928 := by decide
  constructor
  · rintro ⟨rfl, rfl, rfl, rfl⟩
    decide
  · intro q
    rw [q, hk] at hh
    have l0 : c0.toBitVec.toNat % 256 < 256 := Nat.mod_lt _ (by omega)
    have l1 : c1.toBitVec.toNat % 256 < 256 := Nat.mod_lt _ (by omega)
    have l2 : c2.toBitVec.toNat % 256 < 256 := Nat.mod_lt _ (by omega)
    have l3 : c3.toBitVec.toNat % 256 < 256 := Nat.mod_lt _ (by omega)
    have s : c0.toBitVec.toNat % 256 = 0 ∧ c1.toBitVec.toNat % 256 = 164 ∧ c2.toBitVec.toNat % 256 = 4 ∧ c3.toBitVec.toNat % 256 = 0 := by
      clear q b0 b1 b2 b3 h0 h1 h2 h3 hk
      generalize c0.toBitVec.toNat % 256 = a at *
      generalize c1.toBitVec.toNat % 256 = b at *
      generalize c2.toBitVec.toNat % 256 = c at *
      generalize c3.toBitVec.toNat % 256 = d at *
      omega
    have r0 : c0.toInt = 0 := own_byt c0 b0 0 s.1
    have r1 : c1.toInt = -92 := own_byt c1 b1 164 s.2.1
    have r2 : c2.toInt = 4 := own_byt c2 b2 4 s.2.2.1
    have r3 : c3.toInt = 0 := own_byt c3 b3 0 s.2.2.2
    exact ⟨Int32.toInt_inj.mp r0, Int32.toInt_inj.mp r1, Int32.toInt_inj.mp r2, Int32.toInt_inj.mp r3⟩

theorem ef_rmR (m : MethodId) (a0 : Addr) : entryFrame m #[(.ref a0)] 1 = mkF m 0 #[.val (.ref a0)] [] := by first | (simp [entryFrame, mkF, argsToLocals, Value.category]; done) | rfl
def Q_rmR (Z : State) (a0 : Addr) (h0 : Heap) (n0 : Nat) (v : Option Value) (h : Heap) : Prop := v = none ∧ h = h0
set_option maxRecDepth 65536 in
set_option maxHeartbeats 40000000 in
theorem rmR (l : Launch) (Z : State) (aw : Array Value) (hw : ∀ d ∈ tables_1, d.before aw Z = true) (a0 : Addr) (h0 : Heap) (n0 : Nat) :
    Con l Z (⟨"java/lang/Record", "<init>", "()V"⟩ : MethodName) jdk_30_method_1_code 1 none ({ frames := 1, cells := 0, slots := 0, locals := 12 } : Room) #[(.ref a0)] h0 n0 (Q_rmR Z a0 h0 n0) := by
  refine Con.body (plainFor_of_name pn_0) ?_
  intro pr_ en_ st_ me_ below meth co_ T B S
  refine Goes.cast (ef_rmR me_ a0) ?_
  refine Goes.go (fun _ => XS.aloadN S.here B.x rfl (B.d d_jdk_30_method_1_0) rfl rfl) ?_
  show Goes _ _ _ _ T (mkF me_ 1 #[.val (.ref a0)] [(.ref a0)])
  refine Goes.initO (W := 0) S B (w12 hw) (w13 hw) (w14 hw) d_jdk_30_method_1_1 rfl (by decide) (Nat.le_of_eq rfl) (by decide) ?_
  intro T S
  show Goes _ _ _ _ T (mkF me_ 4 #[.val (.ref a0)] [])
  refine Goes.retV S B d_jdk_30_method_1_4 (by decide) (by decide) ?_
  exact ⟨(by first | rfl | (rw [bi_pos (by assumption)]; rfl) | (rw [bi_neg (by assumption)]; rfl) | (rw [nar_bi]; exact congrArg (fun z => some (Value.int z)) (bi_congr (by simp_all))) | (simp_all [bi, nar]; done)), rfl⟩
theorem ef_rmI (m : MethodId) (a0 : Addr) (a1 : Addr) (p2 : Int32) (p3 : Int32) : entryFrame m #[(.ref a0), (.ref a1), (.int p2), (.int p3)] 4 = mkF m 0 #[.val (.ref a0), .val (.ref a1), .val (.int p2), .val (.int p3)] [] := by first | (simp [entryFrame, mkF, argsToLocals, Value.category]; done) | rfl
def Q_rmI (Z : State) (a0 : Addr) (a1 : Addr) (p2 : Int32) (p3 : Int32) (h0 : Heap) (n0 : Nat) (v : Option Value) (h : Heap) : Prop := v = none ∧ Keep h0 h [a0] ∧ Exa Z h a0 "com/example/cardwarden/cardwarden/CommandApdu" ∧ Fld Z h a0 "com/example/cardwarden/cardwarden/CommandApdu" "bytes" "[B" (.ref a1) ∧ Fld Z h a0 "com/example/cardwarden/cardwarden/CommandApdu" "lc" "I" (.int p2) ∧ Fld Z h a0 "com/example/cardwarden/cardwarden/CommandApdu" "ne" "I" (.int p3)
set_option maxRecDepth 65536 in
set_option maxHeartbeats 40000000 in
theorem rmI (l : Launch) (Z : State) (aw : Array Value) (hw : ∀ d ∈ tables_1, d.before aw Z = true) (a0 : Addr) (a1 : Addr) (p2 : Int32) (p3 : Int32) (h0 : Heap) (n0 : Nat) (E_a0 : Exa Z h0 a0 "com/example/cardwarden/cardwarden/CommandApdu") (F_a0_bytes : Fld Z h0 a0 "com/example/cardwarden/cardwarden/CommandApdu" "bytes" "[B" .null) (F_a0_lc : Fld Z h0 a0 "com/example/cardwarden/cardwarden/CommandApdu" "lc" "I" (.int (0 : Int32))) (F_a0_ne : Fld Z h0 a0 "com/example/cardwarden/cardwarden/CommandApdu" "ne" "I" (.int (0 : Int32))) (g_a0 : n0 ≤ a0) :
    Con l Z (⟨"com/example/cardwarden/cardwarden/CommandApdu", "<init>", "([BII)V"⟩ : MethodName) prog_28_method_1_code 4 none ({ frames := 2, cells := 0, slots := 0, locals := 24 } : Room) #[(.ref a0), (.ref a1), (.int p2), (.int p3)] h0 n0 (Q_rmI Z a0 a1 p2 p3 h0 n0) := by
  refine Con.body (plainFor_of_name pn_1) ?_
  intro pr_ en_ st_ me_ below meth co_ T B S
  refine Goes.cast (ef_rmI me_ a0 a1 p2 p3) ?_
  have K : Keep h0 h0 [a0] := Keep.refl _ _
  refine Goes.go (fun _ => XS.aloadN S.here B.x rfl (B.d d_prog_28_method_1_0) rfl rfl) ?_
  show Goes _ _ _ _ T (mkF me_ 1 #[.val (.ref a0), .val (.ref a1), .val (.int p2), .val (.int p3)] [(.ref a0)])
  refine Goes.callI (argsL := []) (rest := []) (W := 0) S B (rmR l Z aw hw a0 _ n0) (w7 hw) (w8 hw) (w10 hw) (w11 hw) (by decide) rfl (by decide) (by decide) (by decide) (by decide) rfl (lenOf pd_0 rfl) rfl (Nat.le_of_eq rfl) d_prog_28_method_1_1 ?_
  intro v T h S hQ
  obtain ⟨rfl, hh⟩ := hQ
  replace hh := hh.symm
  subst hh
  show Goes _ _ _ _ T (mkF me_ 4 #[.val (.ref a0), .val (.ref a1), .val (.int p2), .val (.int p3)] [])
  refine Goes.go (fun _ => XS.aloadN S.here B.x rfl (B.d d_prog_28_method_1_4) rfl rfl) ?_
  show Goes _ _ _ _ T (mkF me_ 5 #[.val (.ref a0), .val (.ref a1), .val (.int p2), .val (.int p3)] [(.ref a0)])
  refine Goes.go (fun _ => XS.aloadN S.here B.x rfl (B.d d_prog_28_method_1_5) rfl rfl) ?_
  show Goes _ _ _ _ T (mkF me_ 6 #[.val (.ref a0), .val (.ref a1), .val (.int p2), .val (.int p3)] [(.ref a1), (.ref a0)])
  refine Goes.putF (v' := (.ref a1)) S B (w15 hw) F_a0_bytes E_a0 (Or.inr ⟨(w16 hw), rfl, rfl⟩) (w2 hw) (ty := (.array .byte)) (by decide) rfl rfl g_a0 d_prog_28_method_1_6 ?_
  intro T h S W
  replace K := K.wr W (Or.inl (by simp))
  replace E_a0 := E_a0.wr W
  replace F_a0_bytes := F_a0_bytes.same W
  replace F_a0_lc := F_a0_lc.other W (Or.inr (slot_ne (Or.inr (w18 hw)) (Or.inr (w16 hw)) (by decide) (t := .int) (t' := (.array .byte)) (by decide) (by decide)))
  replace F_a0_ne := F_a0_ne.other W (Or.inr (slot_ne (Or.inr (w20 hw)) (Or.inr (w16 hw)) (by decide) (t := .int) (t' := (.array .byte)) (by decide) (by decide)))
  show Goes _ _ _ _ T (mkF me_ 9 #[.val (.ref a0), .val (.ref a1), .val (.int p2), .val (.int p3)] [])
  refine Goes.go (fun _ => XS.aloadN S.here B.x rfl (B.d d_prog_28_method_1_9) rfl rfl) ?_
  show Goes _ _ _ _ T (mkF me_ 10 #[.val (.ref a0), .val (.ref a1), .val (.int p2), .val (.int p3)] [(.ref a0)])
  refine Goes.go (fun _ => XS.iloadN S.here B.x rfl (B.d d_prog_28_method_1_10) rfl) ?_
  show Goes _ _ _ _ T (mkF me_ 11 #[.val (.ref a0), .val (.ref a1), .val (.int p2), .val (.int p3)] [(.int p2), (.ref a0)])
  refine Goes.putF (v' := (.int p2)) S B (w17 hw) F_a0_lc E_a0 (Or.inr ⟨(w18 hw), rfl, rfl⟩) (w2 hw) (ty := .int) (by decide) rfl rfl g_a0 d_prog_28_method_1_11 ?_
  intro T h S W
  replace K := K.wr W (Or.inl (by simp))
  replace E_a0 := E_a0.wr W
  replace F_a0_bytes := F_a0_bytes.other W (Or.inr (slot_ne (Or.inr (w16 hw)) (Or.inr (w18 hw)) (by decide) (t := (.array .byte)) (t' := .int) (by decide) (by decide)))
  replace F_a0_lc := F_a0_lc.same W
  replace F_a0_ne := F_a0_ne.other W (Or.inr (slot_ne (Or.inr (w20 hw)) (Or.inr (w18 hw)) (by decide) (t := .int) (t' := .int) (by decide) (by decide)))
  show Goes _ _ _ _ T (mkF me_ 14 #[.val (.ref a0), .val (.ref a1), .val (.int p2), .val (.int p3)] [])
  refine Goes.go (fun _ => XS.aloadN S.here B.x rfl (B.d d_prog_28_method_1_14) rfl rfl) ?_
  show Goes _ _ _ _ T (mkF me_ 15 #[.val (.ref a0), .val (.ref a1), .val (.int p2), .val (.int p3)] [(.ref a0)])
  refine Goes.go (fun _ => XS.iloadN S.here B.x rfl (B.d d_prog_28_method_1_15) rfl) ?_
  show Goes _ _ _ _ T (mkF me_ 16 #[.val (.ref a0), .val (.ref a1), .val (.int p2), .val (.int p3)] [(.int p3), (.ref a0)])
  refine Goes.putF (v' := (.int p3)) S B (w19 hw) F_a0_ne E_a0 (Or.inr ⟨(w20 hw), rfl, rfl⟩) (w2 hw) (ty := .int) (by decide) rfl rfl g_a0 d_prog_28_method_1_16 ?_
  intro T h S W
  replace K := K.wr W (Or.inl (by simp))
  replace E_a0 := E_a0.wr W
  replace F_a0_bytes := F_a0_bytes.other W (Or.inr (slot_ne (Or.inr (w16 hw)) (Or.inr (w20 hw)) (by decide) (t := (.array .byte)) (t' := .int) (by decide) (by decide)))
  replace F_a0_lc := F_a0_lc.other W (Or.inr (slot_ne (Or.inr (w18 hw)) (Or.inr (w20 hw)) (by decide) (t := .int) (t' := .int) (by decide) (by decide)))
  replace F_a0_ne := F_a0_ne.same W
  show Goes _ _ _ _ T (mkF me_ 19 #[.val (.ref a0), .val (.ref a1), .val (.int p2), .val (.int p3)] [])
  refine Goes.retV S B d_prog_28_method_1_19 (by decide) (by decide) ?_
  exact ⟨(by first | rfl | (rw [bi_pos (by assumption)]; rfl) | (rw [bi_neg (by assumption)]; rfl) | (rw [nar_bi]; exact congrArg (fun z => some (Value.int z)) (bi_congr (by simp_all))) | (simp_all [bi, nar]; done)), K, (by first | exact E_a0 | (simpa using E_a0)), (by first | exact F_a0_bytes | (simpa using F_a0_bytes)), (by first | exact F_a0_lc | (simpa using F_a0_lc)), (by first | exact F_a0_ne | (simpa using F_a0_ne))⟩
theorem ef_rm_sel (m : MethodId) (a0 : Addr) : entryFrame m #[(.ref a0)] 1 = mkF m 0 #[.val (.ref a0)] [] := by first | (simp [entryFrame, mkF, argsToLocals, Value.category]; done) | rfl
def Q_rm_sel (Z : State) (a0 : Addr) (ga : Addr) (n : Nat) (f : Nat → Value) (b0 : Int32) (b1 : Int32) (b2 : Int32) (b3 : Int32) (h0 : Heap) (n0 : Nat) (v : Option Value) (h : Heap) : Prop := v = some (.int (bi (b0 = (0 : Int32) ∧ b1 = (-92 : Int32) ∧ b2 = (4 : Int32) ∧ b3 = (0 : Int32)))) ∧ h = h0
set_option maxRecDepth 65536 in
set_option maxHeartbeats 40000000 in
theorem rm_sel (l : Launch) (Z : State) (aw : Array Value) (hw : ∀ d ∈ tables_1, d.before aw Z = true) (a0 : Addr) (ga : Addr) (n : Nat) (f : Nat → Value) (b0 : Int32) (b1 : Int32) (b2 : Int32) (b3 : Int32) (h0 : Heap) (n0 : Nat) (F_a0_bytes : Fld Z h0 a0 "com/example/cardwarden/cardwarden/CommandApdu" "bytes" "[B" (.ref ga)) (A_ga : Ary Z h0 ga .byte n f) (hn : 4 ≤ n) (hf0 : f 0 = .int b0) (hf1 : f 1 = .int b1) (hf2 : f 2 = .int b2) (hf3 : f 3 = .int b3) :
    Con l Z (⟨"com/example/cardwarden/cardwarden/CommandApdu", "isSelectByAid", "()Z"⟩ : MethodName) prog_28_method_5_code 1 (some .boolean) ({ frames := 0, cells := 0, slots := 0, locals := 0 } : Room) #[(.ref a0)] h0 n0 (Q_rm_sel Z a0 ga n f b0 b1 b2 b3 h0 n0) := by
  refine Con.body (plainFor_of_name pn_1) ?_
  intro pr_ en_ st_ me_ below meth co_ T B S
  refine Goes.cast (ef_rm_sel me_ a0) ?_
  refine Goes.go (fun _ => XS.aloadN S.here B.x rfl (B.d d_prog_28_method_5_0) rfl rfl) ?_
  show Goes _ _ _ _ T (mkF me_ 1 #[.val (.ref a0)] [(.ref a0)])
  refine Goes.getF S B (w15 hw) F_a0_bytes d_prog_28_method_5_1 ?_
  intro T S
  show Goes _ _ _ _ T (mkF me_ 4 #[.val (.ref a0)] [(.ref ga)])
  refine Goes.go (fun _ => XS.iconst S.here B.x rfl (B.d d_prog_28_method_5_4)) ?_
  show Goes _ _ _ _ T (mkF me_ 5 #[.val (.ref a0)] [(.int (0 : Int32)), (.ref ga)])
  refine Goes.baload S B A_ga (by decide) (Nat.lt_of_lt_of_le (by decide : (0 : Int32).toNatClampNeg < 4) hn) d_prog_28_method_5_5 (v := (.int b0)) hf0 ?_
  show Goes _ _ _ _ T (mkF me_ 6 #[.val (.ref a0)] [(.int b0)])
  by_cases hc6 : b0 = (0 : Int32)
  · skip
    refine Goes.go (fun _ => XS.ifNo S.here B.x rfl (B.d d_prog_28_method_5_6) rfl ((if0 _ _).trans (teq hc6).2)) ?_
    show Goes _ _ _ _ T (mkF me_ 9 #[.val (.ref a0)] [])
    refine Goes.go (fun _ => XS.aloadN S.here B.x rfl (B.d d_prog_28_method_5_9) rfl rfl) ?_
    show Goes _ _ _ _ T (mkF me_ 10 #[.val (.ref a0)] [(.ref a0)])
    refine Goes.getF S B (w15 hw) F_a0_bytes d_prog_28_method_5_10 ?_
    intro T S
    show Goes _ _ _ _ T (mkF me_ 13 #[.val (.ref a0)] [(.ref ga)])
    refine Goes.go (fun _ => XS.iconst S.here B.x rfl (B.d d_prog_28_method_5_13)) ?_
    show Goes _ _ _ _ T (mkF me_ 14 #[.val (.ref a0)] [(.int (1 : Int32)), (.ref ga)])
    refine Goes.baload S B A_ga (by decide) (Nat.lt_of_lt_of_le (by decide : (1 : Int32).toNatClampNeg < 4) hn) d_prog_28_method_5_14 (v := (.int b1)) hf1 ?_
    show Goes _ _ _ _ T (mkF me_ 15 #[.val (.ref a0)] [(.int b1)])
    refine Goes.go (fun _ => XS.bipush S.here B.x rfl (B.d d_prog_28_method_5_15)) ?_
    show Goes _ _ _ _ T (mkF me_ 17 #[.val (.ref a0)] [(.int (-92 : Int32)), (.int b1)])
    by_cases hc17 : b1 = (-92 : Int32)
    · skip
      refine Goes.go (fun _ => XS.icmpNo S.here B.x rfl (B.d d_prog_28_method_5_17) rfl (teq hc17).2) ?_
      show Goes _ _ _ _ T (mkF me_ 20 #[.val (.ref a0)] [])
      refine Goes.go (fun _ => XS.aloadN S.here B.x rfl (B.d d_prog_28_method_5_20) rfl rfl) ?_
      show Goes _ _ _ _ T (mkF me_ 21 #[.val (.ref a0)] [(.ref a0)])
      refine Goes.getF S B (w15 hw) F_a0_bytes d_prog_28_method_5_21 ?_
      intro T S
      show Goes _ _ _ _ T (mkF me_ 24 #[.val (.ref a0)] [(.ref ga)])
      refine Goes.go (fun _ => XS.iconst S.here B.x rfl (B.d d_prog_28_method_5_24)) ?_
      show Goes _ _ _ _ T (mkF me_ 25 #[.val (.ref a0)] [(.int (2 : Int32)), (.ref ga)])
      refine Goes.baload S B A_ga (by decide) (Nat.lt_of_lt_of_le (by decide : (2 : Int32).toNatClampNeg < 4) hn) d_prog_28_method_5_25 (v := (.int b2)) hf2 ?_
      show Goes _ _ _ _ T (mkF me_ 26 #[.val (.ref a0)] [(.int b2)])
      refine Goes.go (fun _ => XS.iconst S.here B.x rfl (B.d d_prog_28_method_5_26)) ?_
      show Goes _ _ _ _ T (mkF me_ 27 #[.val (.ref a0)] [(.int (4 : Int32)), (.int b2)])
      by_cases hc27 : b2 = (4 : Int32)
      · skip
        refine Goes.go (fun _ => XS.icmpNo S.here B.x rfl (B.d d_prog_28_method_5_27) rfl (teq hc27).2) ?_
        show Goes _ _ _ _ T (mkF me_ 30 #[.val (.ref a0)] [])
        refine Goes.go (fun _ => XS.aloadN S.here B.x rfl (B.d d_prog_28_method_5_30) rfl rfl) ?_
        show Goes _ _ _ _ T (mkF me_ 31 #[.val (.ref a0)] [(.ref a0)])
        refine Goes.getF S B (w15 hw) F_a0_bytes d_prog_28_method_5_31 ?_
        intro T S
        show Goes _ _ _ _ T (mkF me_ 34 #[.val (.ref a0)] [(.ref ga)])
        refine Goes.go (fun _ => XS.iconst S.here B.x rfl (B.d d_prog_28_method_5_34)) ?_
        show Goes _ _ _ _ T (mkF me_ 35 #[.val (.ref a0)] [(.int (3 : Int32)), (.ref ga)])
        refine Goes.baload S B A_ga (by decide) (Nat.lt_of_lt_of_le (by decide : (3 : Int32).toNatClampNeg < 4) hn) d_prog_28_method_5_35 (v := (.int b3)) hf3 ?_
        show Goes _ _ _ _ T (mkF me_ 36 #[.val (.ref a0)] [(.int b3)])
        refine Goes.dia (P := b3 = (0 : Int32)) (mk := fun z => (mkF me_ 44 #[.val (.ref a0)] [(.int z)])) (fun hc36 kk => ?_) (fun hc36 kk => ?_) ?_
        · skip
          refine Goes.go (fun _ => XS.ifNo S.here B.x rfl (B.d d_prog_28_method_5_36) rfl ((if0 _ _).trans (teq hc36).2)) ?_
          show Goes _ _ _ _ T (mkF me_ 39 #[.val (.ref a0)] [])
          refine Goes.go (fun _ => XS.iconst S.here B.x rfl (B.d d_prog_28_method_5_39)) ?_
          show Goes _ _ _ _ T (mkF me_ 40 #[.val (.ref a0)] [(.int (1 : Int32))])
          refine Goes.go (fun _ => XS.goto S.here B.x rfl (pc0 := 40) (pc' := 44) rfl (B.d d_prog_28_method_5_40) (by decide) (by decide)) ?_
          show Goes _ _ _ _ T (mkF me_ 44 #[.val (.ref a0)] [(.int (1 : Int32))])
          exact kk
        · skip
          refine Goes.go (fun _ => XS.ifYes S.here B.x rfl (pc0 := 36) (pc' := 43) rfl (B.d d_prog_28_method_5_36) rfl ((if0 _ _).trans (feq hc36).2) (by decide) (by decide)) ?_
          show Goes _ _ _ _ T (mkF me_ 43 #[.val (.ref a0)] [])
          refine Goes.go (fun _ => XS.iconst S.here B.x rfl (B.d d_prog_28_method_5_43)) ?_
          show Goes _ _ _ _ T (mkF me_ 44 #[.val (.ref a0)] [(.int (0 : Int32))])
          exact kk
        show Goes _ _ _ _ T (mkF me_ 44 #[.val (.ref a0)] [(.int (bi (b3 = (0 : Int32))))])
        refine Goes.retN S B (by simp) d_prog_28_method_5_44 (by decide) (by decide) ?_
        exact ⟨(by first | (simp_all [bi, nar]; done) | (rw [nar_bi]; exact congrArg (fun z => some (Value.int z)) (bi_congr (by simp_all)))), rfl⟩
      · skip
        refine Goes.go (fun _ => XS.icmpYes S.here B.x rfl (pc0 := 27) (pc' := 43) rfl (B.d d_prog_28_method_5_27) rfl (feq hc27).2 (by decide) (by decide)) ?_
        show Goes _ _ _ _ T (mkF me_ 43 #[.val (.ref a0)] [])
        refine Goes.go (fun _ => XS.iconst S.here B.x rfl (B.d d_prog_28_method_5_43)) ?_
        show Goes _ _ _ _ T (mkF me_ 44 #[.val (.ref a0)] [(.int (0 : Int32))])
        refine Goes.retN S B (by simp) d_prog_28_method_5_44 (by decide) (by decide) ?_
        exact ⟨(by first | (simp_all [bi, nar]; done) | (rw [nar_bi]; exact congrArg (fun z => some (Value.int z)) (bi_congr (by simp_all)))), rfl⟩
    · skip
      refine Goes.go (fun _ => XS.icmpYes S.here B.x rfl (pc0 := 17) (pc' := 43) rfl (B.d d_prog_28_method_5_17) rfl (feq hc17).2 (by decide) (by decide)) ?_
      show Goes _ _ _ _ T (mkF me_ 43 #[.val (.ref a0)] [])
      refine Goes.go (fun _ => XS.iconst S.here B.x rfl (B.d d_prog_28_method_5_43)) ?_
      show Goes _ _ _ _ T (mkF me_ 44 #[.val (.ref a0)] [(.int (0 : Int32))])
      refine Goes.retN S B (by simp) d_prog_28_method_5_44 (by decide) (by decide) ?_
      exact ⟨(by first | (simp_all [bi, nar]; done) | (rw [nar_bi]; exact congrArg (fun z => some (Value.int z)) (bi_congr (by simp_all)))), rfl⟩
  · skip
    refine Goes.go (fun _ => XS.ifYes S.here B.x rfl (pc0 := 6) (pc' := 43) rfl (B.d d_prog_28_method_5_6) rfl ((if0 _ _).trans (feq hc6).2) (by decide) (by decide)) ?_
    show Goes _ _ _ _ T (mkF me_ 43 #[.val (.ref a0)] [])
    refine Goes.go (fun _ => XS.iconst S.here B.x rfl (B.d d_prog_28_method_5_43)) ?_
    show Goes _ _ _ _ T (mkF me_ 44 #[.val (.ref a0)] [(.int (0 : Int32))])
    refine Goes.retN S B (by simp) d_prog_28_method_5_44 (by decide) (by decide) ?_
    exact ⟨(by first | (simp_all [bi, nar]; done) | (rw [nar_bi]; exact congrArg (fun z => some (Value.int z)) (bi_congr (by simp_all)))), rfl⟩
theorem ef_rm0 (m : MethodId) (p0 : Int32) (p1 : Int32) (p2 : Int32) (p3 : Int32) (p4 : Int32) (p5 : Int32) : entryFrame m #[(.int p0), (.int p1), (.int p2), (.int p3), (.int p4), (.int p5)] maxLocals = mkF m 0 #[.val (.int p0), .val (.int p1), .val (.int p2), .val (.int p3), .val (.int p4), .val (.int p5), .unset, .unset, .unset, .unset, .unset, .unset, .unset, .unset, .unset] [] := by first | (simp [entryFrame, mkF, argsToLocals, Value.category, maxLocals]; done) | rfl
def Q_rm0 (Z : State) (p0 : Int32) (p1 : Int32) (p2 : Int32) (p3 : Int32) (p4 : Int32) (p5 : Int32) (h0 : Heap) (n0 : Nat) (v : Option Value) (h : Heap) : Prop := v = some (.int 1)
set_option maxRecDepth 65536 in
set_option maxHeartbeats 40000000 in
theorem rm0 (l : Launch) (Z : State) (aw : Array Value) (hw : ∀ d ∈ tables_1, d.before aw Z = true) (p0 : Int32) (p1 : Int32) (p2 : Int32) (p3 : Int32) (p4 : Int32) (p5 : Int32) (h0 : Heap) (n0 : Nat) :
    Con l Z x code maxLocals ret room_1 #[(.int p0), (.int p1), (.int p2), (.int p3), (.int p4), (.int p5)] h0 n0 (Q_rm0 Z p0 p1 p2 p3 p4 p5 h0 n0) := by
  refine Con.body (plainFor_of_name pn_2) ?_
  intro pr_ en_ st_ me_ below meth co_ T B S
  refine Goes.cast (ef_rm0 me_ p0 p1 p2 p3 p4 p5) ?_
  have J1 : ∀ (T : State) (c0 : Int32), Sd pr_ l en_ room_1 st_ me_ #[(.int p0), (.int p1), (.int p2), (.int p3), (.int p4), (.int p5)] below meth co_ T h0 n0 0 0 → nar .byte c0 = c0 → Goes pr_.tables en_ below (Fine st_ n0 (Q_rm0 Z p0 p1 p2 p3 p4 p5 h0 n0) room_1.cells room_1.slots) T (mkF me_ 15 #[.val (.int p0), .val (.int p1), .val (.int p2), .val (.int p3), .val (.int p4), .val (.int p5), .val (.int c0), .unset, .unset, .unset, .unset, .unset, .unset, .unset, .unset] []) := by
    intro T c0 S hbc0
    have J2 : ∀ (T : State) (c1 : Int32), Sd pr_ l en_ room_1 st_ me_ #[(.int p0), (.int p1), (.int p2), (.int p3), (.int p4), (.int p5)] below meth co_ T h0 n0 0 0 → nar .byte c1 = c1 → Goes pr_.tables en_ below (Fine st_ n0 (Q_rm0 Z p0 p1 p2 p3 p4 p5 h0 n0) room_1.cells room_1.slots) T (mkF me_ 31 #[.val (.int p0), .val (.int p1), .val (.int p2), .val (.int p3), .val (.int p4), .val (.int p5), .val (.int c0), .val (.int c1), .unset, .unset, .unset, .unset, .unset, .unset, .unset] []) := by
      intro T c1 S hbc1
      have J3 : ∀ (T : State) (c2 : Int32), Sd pr_ l en_ room_1 st_ me_ #[(.int p0), (.int p1), (.int p2), (.int p3), (.int p4), (.int p5)] below meth co_ T h0 n0 0 0 → nar .byte c2 = c2 → Goes pr_.tables en_ below (Fine st_ n0 (Q_rm0 Z p0 p1 p2 p3 p4 p5 h0 n0) room_1.cells room_1.slots) T (mkF me_ 46 #[.val (.int p0), .val (.int p1), .val (.int p2), .val (.int p3), .val (.int p4), .val (.int p5), .val (.int c0), .val (.int c1), .val (.int c2), .unset, .unset, .unset, .unset, .unset, .unset] []) := by
        intro T c2 S hbc2
        have J4 : ∀ (T : State) (c3 : Int32), Sd pr_ l en_ room_1 st_ me_ #[(.int p0), (.int p1), (.int p2), (.int p3), (.int p4), (.int p5)] below meth co_ T h0 n0 0 0 → nar .byte c3 = c3 → Goes pr_.tables en_ below (Fine st_ n0 (Q_rm0 Z p0 p1 p2 p3 p4 p5 h0 n0) room_1.cells room_1.slots) T (mkF me_ 62 #[.val (.int p0), .val (.int p1), .val (.int p2), .val (.int p3), .val (.int p4), .val (.int p5), .val (.int c0), .val (.int c1), .val (.int c2), .val (.int c3), .unset, .unset, .unset, .unset, .unset] []) := by
          intro T c3 S hbc3
          refine Goes.go (fun _ => XS.iload S.here B.x rfl (B.d at_62) rfl) ?_
          show Goes _ _ _ _ T (mkF me_ 64 #[.val (.int p0), .val (.int p1), .val (.int p2), .val (.int p3), .val (.int p4), .val (.int p5), .val (.int c0), .val (.int c1), .val (.int c2), .val (.int c3), .unset, .unset, .unset, .unset, .unset] [(.int p5)])
          refine Goes.go (fun _ => XS.bipush S.here B.x rfl (B.d at_64)) ?_
          show Goes _ _ _ _ T (mkF me_ 66 #[.val (.int p0), .val (.int p1), .val (.int p2), .val (.int p3), .val (.int p4), .val (.int p5), .val (.int c0), .val (.int c1), .val (.int c2), .val (.int c3), .unset, .unset, .unset, .unset, .unset] [(.int (16 : Int32)), (.int p5)])
          refine Goes.go (fun _ => XS.iand S.here B.x rfl (B.d at_66) rfl) ?_
          show Goes _ _ _ _ T (mkF me_ 67 #[.val (.int p0), .val (.int p1), .val (.int p2), .val (.int p3), .val (.int p4), .val (.int p5), .val (.int c0), .val (.int c1), .val (.int c2), .val (.int c3), .unset, .unset, .unset, .unset, .unset] [(.int (p5 &&& (16 : Int32)))])
          by_cases hc67 : (p5 &&& (16 : Int32)) = (0 : Int32)
          · skip
            refine Goes.go (fun _ => XS.ifYes S.here B.x rfl (pc0 := 67) (pc' := 77) rfl (B.d at_67) rfl ((if0 _ _).trans (teq hc67).1) (by decide) (by decide)) ?_
            show Goes _ _ _ _ T (mkF me_ 77 #[.val (.int p0), .val (.int p1), .val (.int p2), .val (.int p3), .val (.int p4), .val (.int p5), .val (.int c0), .val (.int c1), .val (.int c2), .val (.int c3), .unset, .unset, .unset, .unset, .unset] [])
            refine Goes.go (fun _ => XS.iconst S.here B.x rfl (B.d at_77)) ?_
            show Goes _ _ _ _ T (mkF me_ 78 #[.val (.int p0), .val (.int p1), .val (.int p2), .val (.int p3), .val (.int p4), .val (.int p5), .val (.int c0), .val (.int c1), .val (.int c2), .val (.int c3), .unset, .unset, .unset, .unset, .unset] [(.int (4 : Int32))])
            refine Goes.newP (aty := .byte) (cap := 4) S B (w0 hw) at_78 (by decide) (by decide) (by decide) (by decide) (by decide) ?_
            intro T h b5 S X zb g_b5 A_b5
            replace A_b5 : Ary Z h b5 .byte 4 (fun _ => (.int 0)) := A_b5
            show Goes _ _ _ _ T (mkF me_ 80 #[.val (.int p0), .val (.int p1), .val (.int p2), .val (.int p3), .val (.int p4), .val (.int p5), .val (.int c0), .val (.int c1), .val (.int c2), .val (.int c3), .unset, .unset, .unset, .unset, .unset] [(.ref b5)])
            refine Goes.go (fun _ => XS.astore S.here B.x rfl (B.d at_80) rfl rfl (l' := #[.val (.int p0), .val (.int p1), .val (.int p2), .val (.int p3), .val (.int p4), .val (.int p5), .val (.int c0), .val (.int c1), .val (.int c2), .val (.int c3), .val (.ref b5), .unset, .unset, .unset, .unset]) rfl) ?_
            show Goes _ _ _ _ T (mkF me_ 82 #[.val (.int p0), .val (.int p1), .val (.int p2), .val (.int p3), .val (.int p4), .val (.int p5), .val (.int c0), .val (.int c1), .val (.int c2), .val (.int c3), .val (.ref b5), .unset, .unset, .unset, .unset] [])
            refine Goes.go (fun _ => XS.aload S.here B.x rfl (B.d at_82) rfl rfl) ?_
            show Goes _ _ _ _ T (mkF me_ 84 #[.val (.int p0), .val (.int p1), .val (.int p2), .val (.int p3), .val (.int p4), .val (.int p5), .val (.int c0), .val (.int c1), .val (.int c2), .val (.int c3), .val (.ref b5), .unset, .unset, .unset, .unset] [(.ref b5)])
            refine Goes.go (fun _ => XS.iconst S.here B.x rfl (B.d at_84)) ?_
            show Goes _ _ _ _ T (mkF me_ 85 #[.val (.int p0), .val (.int p1), .val (.int p2), .val (.int p3), .val (.int p4), .val (.int p5), .val (.int c0), .val (.int c1), .val (.int c2), .val (.int c3), .val (.ref b5), .unset, .unset, .unset, .unset] [(.int (0 : Int32)), (.ref b5)])
            refine Goes.go (fun _ => XS.iload S.here B.x rfl (B.d at_85) rfl) ?_
            show Goes _ _ _ _ T (mkF me_ 87 #[.val (.int p0), .val (.int p1), .val (.int p2), .val (.int p3), .val (.int p4), .val (.int p5), .val (.int c0), .val (.int c1), .val (.int c2), .val (.int c3), .val (.ref b5), .unset, .unset, .unset, .unset] [(.int c0), (.int (0 : Int32)), (.ref b5)])
            refine Goes.bastore S B A_b5 (by decide) (by decide) g_b5 at_87 ?_
            intro T h S W A_b5
            replace A_b5 : Ary Z h b5 .byte 4 (aup (fun _ => (.int 0)) 0 (.int (nar .byte c0))) := A_b5
            show Goes _ _ _ _ T (mkF me_ 88 #[.val (.int p0), .val (.int p1), .val (.int p2), .val (.int p3), .val (.int p4), .val (.int p5), .val (.int c0), .val (.int c1), .val (.int c2), .val (.int c3), .val (.ref b5), .unset, .unset, .unset, .unset] [])
            refine Goes.go (fun _ => XS.aload S.here B.x rfl (B.d at_88) rfl rfl) ?_
            show Goes _ _ _ _ T (mkF me_ 90 #[.val (.int p0), .val (.int p1), .val (.int p2), .val (.int p3), .val (.int p4), .val (.int p5), .val (.int c0), .val (.int c1), .val (.int c2), .val (.int c3), .val (.ref b5), .unset, .unset, .unset, .unset] [(.ref b5)])
            refine Goes.go (fun _ => XS.iconst S.here B.x rfl (B.d at_90)) ?_
            show Goes _ _ _ _ T (mkF me_ 91 #[.val (.int p0), .val (.int p1), .val (.int p2), .val (.int p3), .val (.int p4), .val (.int p5), .val (.int c0), .val (.int c1), .val (.int c2), .val (.int c3), .val (.ref b5), .unset, .unset, .unset, .unset] [(.int (1 : Int32)), (.ref b5)])
            refine Goes.go (fun _ => XS.iload S.here B.x rfl (B.d at_91) rfl) ?_
            show Goes _ _ _ _ T (mkF me_ 93 #[.val (.int p0), .val (.int p1), .val (.int p2), .val (.int p3), .val (.int p4), .val (.int p5), .val (.int c0), .val (.int c1), .val (.int c2), .val (.int c3), .val (.ref b5), .unset, .unset, .unset, .unset] [(.int c1), (.int (1 : Int32)), (.ref b5)])
            refine Goes.bastore S B A_b5 (by decide) (by decide) g_b5 at_93 ?_
            intro T h S W A_b5
            replace A_b5 : Ary Z h b5 .byte 4 (aup (aup (fun _ => (.int 0)) 0 (.int (nar .byte c0))) 1 (.int (nar .byte c1))) := A_b5
            show Goes _ _ _ _ T (mkF me_ 94 #[.val (.int p0), .val (.int p1), .val (.int p2), .val (.int p3), .val (.int p4), .val (.int p5), .val (.int c0), .val (.int c1), .val (.int c2), .val (.int c3), .val (.ref b5), .unset, .unset, .unset, .unset] [])
            refine Goes.go (fun _ => XS.aload S.here B.x rfl (B.d at_94) rfl rfl) ?_
            show Goes _ _ _ _ T (mkF me_ 96 #[.val (.int p0), .val (.int p1), .val (.int p2), .val (.int p3), .val (.int p4), .val (.int p5), .val (.int c0), .val (.int c1), .val (.int c2), .val (.int c3), .val (.ref b5), .unset, .unset, .unset, .unset] [(.ref b5)])
            refine Goes.go (fun _ => XS.iconst S.here B.x rfl (B.d at_96)) ?_
            show Goes _ _ _ _ T (mkF me_ 97 #[.val (.int p0), .val (.int p1), .val (.int p2), .val (.int p3), .val (.int p4), .val (.int p5), .val (.int c0), .val (.int c1), .val (.int c2), .val (.int c3), .val (.ref b5), .unset, .unset, .unset, .unset] [(.int (2 : Int32)), (.ref b5)])
            refine Goes.go (fun _ => XS.iload S.here B.x rfl (B.d at_97) rfl) ?_
            show Goes _ _ _ _ T (mkF me_ 99 #[.val (.int p0), .val (.int p1), .val (.int p2), .val (.int p3), .val (.int p4), .val (.int p5), .val (.int c0), .val (.int c1), .val (.int c2), .val (.int c3), .val (.ref b5), .unset, .unset, .unset, .unset] [(.int c2), (.int (2 : Int32)), (.ref b5)])
            refine Goes.bastore S B A_b5 (by decide) (by decide) g_b5 at_99 ?_
            intro T h S W A_b5
            replace A_b5 : Ary Z h b5 .byte 4 (aup (aup (aup (fun _ => (.int 0)) 0 (.int (nar .byte c0))) 1 (.int (nar .byte c1))) 2 (.int (nar .byte c2))) := A_b5
            show Goes _ _ _ _ T (mkF me_ 100 #[.val (.int p0), .val (.int p1), .val (.int p2), .val (.int p3), .val (.int p4), .val (.int p5), .val (.int c0), .val (.int c1), .val (.int c2), .val (.int c3), .val (.ref b5), .unset, .unset, .unset, .unset] [])
            refine Goes.go (fun _ => XS.aload S.here B.x rfl (B.d at_100) rfl rfl) ?_
            show Goes _ _ _ _ T (mkF me_ 102 #[.val (.int p0), .val (.int p1), .val (.int p2), .val (.int p3), .val (.int p4), .val (.int p5), .val (.int c0), .val (.int c1), .val (.int c2), .val (.int c3), .val (.ref b5), .unset, .unset, .unset, .unset] [(.ref b5)])
            refine Goes.go (fun _ => XS.iconst S.here B.x rfl (B.d at_102)) ?_
            show Goes _ _ _ _ T (mkF me_ 103 #[.val (.int p0), .val (.int p1), .val (.int p2), .val (.int p3), .val (.int p4), .val (.int p5), .val (.int c0), .val (.int c1), .val (.int c2), .val (.int c3), .val (.ref b5), .unset, .unset, .unset, .unset] [(.int (3 : Int32)), (.ref b5)])
            refine Goes.go (fun _ => XS.iload S.here B.x rfl (B.d at_103) rfl) ?_
            show Goes _ _ _ _ T (mkF me_ 105 #[.val (.int p0), .val (.int p1), .val (.int p2), .val (.int p3), .val (.int p4), .val (.int p5), .val (.int c0), .val (.int c1), .val (.int c2), .val (.int c3), .val (.ref b5), .unset, .unset, .unset, .unset] [(.int c3), (.int (3 : Int32)), (.ref b5)])
            refine Goes.bastore S B A_b5 (by decide) (by decide) g_b5 at_105 ?_
            intro T h S W A_b5
            replace A_b5 : Ary Z h b5 .byte 4 (aup (aup (aup (aup (fun _ => (.int 0)) 0 (.int (nar .byte c0))) 1 (.int (nar .byte c1))) 2 (.int (nar .byte c2))) 3 (.int (nar .byte c3))) := A_b5
            show Goes _ _ _ _ T (mkF me_ 106 #[.val (.int p0), .val (.int p1), .val (.int p2), .val (.int p3), .val (.int p4), .val (.int p5), .val (.int c0), .val (.int c1), .val (.int c2), .val (.int c3), .val (.ref b5), .unset, .unset, .unset, .unset] [])
            refine Goes.go (fun _ => XS.aload S.here B.x rfl (B.d at_106) rfl rfl) ?_
            show Goes _ _ _ _ T (mkF me_ 108 #[.val (.int p0), .val (.int p1), .val (.int p2), .val (.int p3), .val (.int p4), .val (.int p5), .val (.int c0), .val (.int c1), .val (.int c2), .val (.int c3), .val (.ref b5), .unset, .unset, .unset, .unset] [(.ref b5)])
            refine Goes.alen S B A_b5 (z := (4 : Int32)) rfl at_108 ?_
            show Goes _ _ _ _ T (mkF me_ 109 #[.val (.int p0), .val (.int p1), .val (.int p2), .val (.int p3), .val (.int p4), .val (.int p5), .val (.int c0), .val (.int c1), .val (.int c2), .val (.int c3), .val (.ref b5), .unset, .unset, .unset, .unset] [(.int (4 : Int32))])
            refine Goes.go (fun _ => XS.bipush S.here B.x rfl (B.d at_109)) ?_
            show Goes _ _ _ _ T (mkF me_ 111 #[.val (.int p0), .val (.int p1), .val (.int p2), .val (.int p3), .val (.int p4), .val (.int p5), .val (.int c0), .val (.int c1), .val (.int c2), .val (.int c3), .val (.ref b5), .unset, .unset, .unset, .unset] [(.int (6 : Int32)), (.int (4 : Int32))])
            refine Goes.go (fun _ => XS.icmpYes S.here B.x rfl (pc0 := 111) (pc' := 131) rfl (B.d at_111) rfl (by decide) (by decide) (by decide)) ?_
            show Goes _ _ _ _ T (mkF me_ 131 #[.val (.int p0), .val (.int p1), .val (.int p2), .val (.int p3), .val (.int p4), .val (.int p5), .val (.int c0), .val (.int c1), .val (.int c2), .val (.int c3), .val (.ref b5), .unset, .unset, .unset, .unset] [])
            refine Goes.newO S B (w1 hw) (w2 hw) (w3 hw) at_131 (by decide) (by decide) ?_
            intro T h b6 S X zb g_b6 E_b6 D
            have ne_b5__b6 : b5 ≠ b6 := Nat.ne_of_lt (Nat.lt_of_lt_of_le A_b5.lt (Nat.le_of_eq zb.symm))
            replace A_b5 := A_b5.ext X
            have F_b6_bytes : Fld Z h b6 "com/example/cardwarden/cardwarden/CommandApdu" "bytes" "[B" .null := D (Or.inr (w16 hw)) (ty := (.array .byte)) (by decide)
            have F_b6_lc : Fld Z h b6 "com/example/cardwarden/cardwarden/CommandApdu" "lc" "I" (.int (0 : Int32)) := D (Or.inr (w18 hw)) (ty := .int) (by decide)
            have F_b6_ne : Fld Z h b6 "com/example/cardwarden/cardwarden/CommandApdu" "ne" "I" (.int (0 : Int32)) := D (Or.inr (w20 hw)) (ty := .int) (by decide)
            show Goes _ _ _ _ T (mkF me_ 134 #[.val (.int p0), .val (.int p1), .val (.int p2), .val (.int p3), .val (.int p4), .val (.int p5), .val (.int c0), .val (.int c1), .val (.int c2), .val (.int c3), .val (.ref b5), .unset, .unset, .unset, .unset] [(.ref b6)])
            refine Goes.go (fun _ => XS.dup S.here B.x rfl (B.d at_134) rfl rfl) ?_
            show Goes _ _ _ _ T (mkF me_ 135 #[.val (.int p0), .val (.int p1), .val (.int p2), .val (.int p3), .val (.int p4), .val (.int p5), .val (.int c0), .val (.int c1), .val (.int c2), .val (.int c3), .val (.ref b5), .unset, .unset, .unset, .unset] [(.ref b6), (.ref b6)])
            refine Goes.go (fun _ => XS.aload S.here B.x rfl (B.d at_135) rfl rfl) ?_
            show Goes _ _ _ _ T (mkF me_ 137 #[.val (.int p0), .val (.int p1), .val (.int p2), .val (.int p3), .val (.int p4), .val (.int p5), .val (.int c0), .val (.int c1), .val (.int c2), .val (.int c3), .val (.ref b5), .unset, .unset, .unset, .unset] [(.ref b5), (.ref b6), (.ref b6)])
            refine Goes.go (fun _ => XS.iload S.here B.x rfl (B.d at_137) rfl) ?_
            show Goes _ _ _ _ T (mkF me_ 139 #[.val (.int p0), .val (.int p1), .val (.int p2), .val (.int p3), .val (.int p4), .val (.int p5), .val (.int c0), .val (.int c1), .val (.int c2), .val (.int c3), .val (.ref b5), .unset, .unset, .unset, .unset] [(.int p4), (.ref b5), (.ref b6), (.ref b6)])
            refine Goes.go (fun _ => XS.bipush S.here B.x rfl (B.d at_139)) ?_
            show Goes _ _ _ _ T (mkF me_ 141 #[.val (.int p0), .val (.int p1), .val (.int p2), .val (.int p3), .val (.int p4), .val (.int p5), .val (.int c0), .val (.int c1), .val (.int c2), .val (.int c3), .val (.ref b5), .unset, .unset, .unset, .unset] [(.int (16 : Int32)), (.int p4), (.ref b5), (.ref b6), (.ref b6)])
            refine Goes.go (fun _ => XS.ishr S.here B.x rfl (B.d at_141) rfl) ?_
            show Goes _ _ _ _ T (mkF me_ 142 #[.val (.int p0), .val (.int p1), .val (.int p2), .val (.int p3), .val (.int p4), .val (.int p5), .val (.int c0), .val (.int c1), .val (.int c2), .val (.int c3), .val (.ref b5), .unset, .unset, .unset, .unset] [(.int (p4 >>> ((16 : Int32) &&& 31))), (.ref b5), (.ref b6), (.ref b6)])
            refine Goes.go (fun _ => XS.iload S.here B.x rfl (B.d at_142) rfl) ?_
            show Goes _ _ _ _ T (mkF me_ 144 #[.val (.int p0), .val (.int p1), .val (.int p2), .val (.int p3), .val (.int p4), .val (.int p5), .val (.int c0), .val (.int c1), .val (.int c2), .val (.int c3), .val (.ref b5), .unset, .unset, .unset, .unset] [(.int p5), (.int (p4 >>> ((16 : Int32) &&& 31))), (.ref b5), (.ref b6), (.ref b6)])
            refine Goes.go (fun _ => XS.iconst S.here B.x rfl (B.d at_144)) ?_
            show Goes _ _ _ _ T (mkF me_ 145 #[.val (.int p0), .val (.int p1), .val (.int p2), .val (.int p3), .val (.int p4), .val (.int p5), .val (.int c0), .val (.int c1), .val (.int c2), .val (.int c3), .val (.ref b5), .unset, .unset, .unset, .unset] [(.int (5 : Int32)), (.int p5), (.int (p4 >>> ((16 : Int32) &&& 31))), (.ref b5), (.ref b6), (.ref b6)])
            refine Goes.go (fun _ => XS.ishr S.here B.x rfl (B.d at_145) rfl) ?_
            show Goes _ _ _ _ T (mkF me_ 146 #[.val (.int p0), .val (.int p1), .val (.int p2), .val (.int p3), .val (.int p4), .val (.int p5), .val (.int c0), .val (.int c1), .val (.int c2), .val (.int c3), .val (.ref b5), .unset, .unset, .unset, .unset] [(.int (p5 >>> ((5 : Int32) &&& 31))), (.int (p4 >>> ((16 : Int32) &&& 31))), (.ref b5), (.ref b6), (.ref b6)])
            refine Goes.callI (argsL := [(.ref b5), (.int (p4 >>> ((16 : Int32) &&& 31))), (.int (p5 >>> ((5 : Int32) &&& 31)))]) (rest := [(.ref b6)]) (W := 1) S B (rmI l Z aw hw b6 b5 (p4 >>> ((16 : Int32) &&& 31)) (p5 >>> ((5 : Int32) &&& 31)) _ n0 E_b6 F_b6_bytes F_b6_lc F_b6_ne g_b6) (w4 hw) (w5 hw) (w3 hw) (w6 hw) (by decide) rfl (by decide) (by decide) (by decide) (by decide) rfl (lenOf pd_1 rfl) rfl (Nat.le_of_eq rfl) at_146 ?_
            intro v T h S hQ
            obtain ⟨rfl, Kc, E_b6', F_b6_bytes', F_b6_lc', F_b6_ne'⟩ := hQ
            replace A_b5 := A_b5.keep Kc (ninS ne_b5__b6 nin0)
            replace E_b6 := E_b6'
            replace F_b6_bytes := F_b6_bytes'
            replace F_b6_lc := F_b6_lc'
            replace F_b6_ne := F_b6_ne'
            show Goes _ _ _ _ T (mkF me_ 149 #[.val (.int p0), .val (.int p1), .val (.int p2), .val (.int p3), .val (.int p4), .val (.int p5), .val (.int c0), .val (.int c1), .val (.int c2), .val (.int c3), .val (.ref b5), .unset, .unset, .unset, .unset] [(.ref b6)])
            refine Goes.go (fun _ => XS.astore S.here B.x rfl (B.d at_149) rfl rfl (l' := #[.val (.int p0), .val (.int p1), .val (.int p2), .val (.int p3), .val (.int p4), .val (.int p5), .val (.int c0), .val (.int c1), .val (.int c2), .val (.int c3), .val (.ref b5), .val (.ref b6), .unset, .unset, .unset]) rfl) ?_
            show Goes _ _ _ _ T (mkF me_ 151 #[.val (.int p0), .val (.int p1), .val (.int p2), .val (.int p3), .val (.int p4), .val (.int p5), .val (.int c0), .val (.int c1), .val (.int c2), .val (.int c3), .val (.ref b5), .val (.ref b6), .unset, .unset, .unset] [])
            refine Goes.go (fun _ => XS.aload S.here B.x rfl (B.d at_151) rfl rfl) ?_
            show Goes _ _ _ _ T (mkF me_ 153 #[.val (.int p0), .val (.int p1), .val (.int p2), .val (.int p3), .val (.int p4), .val (.int p5), .val (.int c0), .val (.int c1), .val (.int c2), .val (.int c3), .val (.ref b5), .val (.ref b6), .unset, .unset, .unset] [(.ref b6)])
            refine Goes.callV (argsL := []) (rest := []) (W := 0) S B (rm_sel l Z aw hw b6 b5 4 (aup (aup (aup (aup (fun _ => (.int 0)) 0 (.int (nar .byte c0))) 1 (.int (nar .byte c1))) 2 (.int (nar .byte c2))) 3 (.int (nar .byte c3))) c0 c1 c2 c3 _ n0 F_b6_bytes A_b5 (by decide) (own_v hbc0) (own_v hbc1) (own_v hbc2) (own_v hbc3)) E_b6 (w21 hw) (w22 hw) (w24 hw) (w23 hw) (w3 hw) (w25 hw) (by decide) (by decide) (by decide) (by decide) (by decide) rfl (lenOf pd_2 rfl) rfl (Nat.le_of_eq rfl) at_153 ?_
            intro v T h S hQ
            obtain ⟨rfl, hh⟩ := hQ
            replace hh := hh.symm
            subst hh
            show Goes _ _ _ _ T (mkF me_ 156 #[.val (.int p0), .val (.int p1), .val (.int p2), .val (.int p3), .val (.int p4), .val (.int p5), .val (.int c0), .val (.int c1), .val (.int c2), .val (.int c3), .val (.ref b5), .val (.ref b6), .unset, .unset, .unset] [(.int (bi (c0 = (0 : Int32) ∧ c1 = (-92 : Int32) ∧ c2 = (4 : Int32) ∧ c3 = (0 : Int32))))])
            refine Goes.go (fun _ => XS.istore S.here B.x rfl (B.d at_156) rfl (l' := #[.val (.int p0), .val (.int p1), .val (.int p2), .val (.int p3), .val (.int p4), .val (.int p5), .val (.int c0), .val (.int c1), .val (.int c2), .val (.int c3), .val (.ref b5), .val (.ref b6), .val (.int (bi (c0 = (0 : Int32) ∧ c1 = (-92 : Int32) ∧ c2 = (4 : Int32) ∧ c3 = (0 : Int32)))), .unset, .unset]) rfl) ?_
            show Goes _ _ _ _ T (mkF me_ 158 #[.val (.int p0), .val (.int p1), .val (.int p2), .val (.int p3), .val (.int p4), .val (.int p5), .val (.int c0), .val (.int c1), .val (.int c2), .val (.int c3), .val (.ref b5), .val (.ref b6), .val (.int (bi (c0 = (0 : Int32) ∧ c1 = (-92 : Int32) ∧ c2 = (4 : Int32) ∧ c3 = (0 : Int32)))), .unset, .unset] [])
            refine Goes.go (fun _ => XS.iload S.here B.x rfl (B.d at_158) rfl) ?_
            show Goes _ _ _ _ T (mkF me_ 160 #[.val (.int p0), .val (.int p1), .val (.int p2), .val (.int p3), .val (.int p4), .val (.int p5), .val (.int c0), .val (.int c1), .val (.int c2), .val (.int c3), .val (.ref b5), .val (.ref b6), .val (.int (bi (c0 = (0 : Int32) ∧ c1 = (-92 : Int32) ∧ c2 = (4 : Int32) ∧ c3 = (0 : Int32)))), .unset, .unset] [(.int c0)])
            refine Goes.go (fun _ => XS.sipush S.here B.x rfl (B.d at_160)) ?_
            show Goes _ _ _ _ T (mkF me_ 163 #[.val (.int p0), .val (.int p1), .val (.int p2), .val (.int p3), .val (.int p4), .val (.int p5), .val (.int c0), .val (.int c1), .val (.int c2), .val (.int c3), .val (.ref b5), .val (.ref b6), .val (.int (bi (c0 = (0 : Int32) ∧ c1 = (-92 : Int32) ∧ c2 = (4 : Int32) ∧ c3 = (0 : Int32)))), .unset, .unset] [(.int (255 : Int32)), (.int c0)])
            refine Goes.go (fun _ => XS.iand S.here B.x rfl (B.d at_163) rfl) ?_
            show Goes _ _ _ _ T (mkF me_ 164 #[.val (.int p0), .val (.int p1), .val (.int p2), .val (.int p3), .val (.int p4), .val (.int p5), .val (.int c0), .val (.int c1), .val (.int c2), .val (.int c3), .val (.ref b5), .val (.ref b6), .val (.int (bi (c0 = (0 : Int32) ∧ c1 = (-92 : Int32) ∧ c2 = (4 : Int32) ∧ c3 = (0 : Int32)))), .unset, .unset] [(.int (c0 &&& (255 : Int32)))])
            refine Goes.go (fun _ => XS.bipush S.here B.x rfl (B.d at_164)) ?_
            show Goes _ _ _ _ T (mkF me_ 166 #[.val (.int p0), .val (.int p1), .val (.int p2), .val (.int p3), .val (.int p4), .val (.int p5), .val (.int c0), .val (.int c1), .val (.int c2), .val (.int c3), .val (.ref b5), .val (.ref b6), .val (.int (bi (c0 = (0 : Int32) ∧ c1 = (-92 : Int32) ∧ c2 = (4 : Int32) ∧ c3 = (0 : Int32)))), .unset, .unset] [(.int (24 : Int32)), (.int (c0 &&& (255 : Int32)))])
            refine Goes.go (fun _ => XS.ishl S.here B.x rfl (B.d at_166) rfl) ?_
            show Goes _ _ _ _ T (mkF me_ 167 #[.val (.int p0), .val (.int p1), .val (.int p2), .val (.int p3), .val (.int p4), .val (.int p5), .val (.int c0), .val (.int c1), .val (.int c2), .val (.int c3), .val (.ref b5), .val (.ref b6), .val (.int (bi (c0 = (0 : Int32) ∧ c1 = (-92 : Int32) ∧ c2 = (4 : Int32) ∧ c3 = (0 : Int32)))), .unset, .unset] [(.int ((c0 &&& (255 : Int32)) <<< ((24 : Int32) &&& 31)))])
            refine Goes.go (fun _ => XS.iload S.here B.x rfl (B.d at_167) rfl) ?_
            show Goes _ _ _ _ T (mkF me_ 169 #[.val (.int p0), .val (.int p1), .val (.int p2), .val (.int p3), .val (.int p4), .val (.int p5), .val (.int c0), .val (.int c1), .val (.int c2), .val (.int c3), .val (.ref b5), .val (.ref b6), .val (.int (bi (c0 = (0 : Int32) ∧ c1 = (-92 : Int32) ∧ c2 = (4 : Int32) ∧ c3 = (0 : Int32)))), .unset, .unset] [(.int c1), (.int ((c0 &&& (255 : Int32)) <<< ((24 : Int32) &&& 31)))])
            refine Goes.go (fun _ => XS.sipush S.here B.x rfl (B.d at_169)) ?_
            show Goes _ _ _ _ T (mkF me_ 172 #[.val (.int p0), .val (.int p1), .val (.int p2), .val (.int p3), .val (.int p4), .val (.int p5), .val (.int c0), .val (.int c1), .val (.int c2), .val (.int c3), .val (.ref b5), .val (.ref b6), .val (.int (bi (c0 = (0 : Int32) ∧ c1 = (-92 : Int32) ∧ c2 = (4 : Int32) ∧ c3 = (0 : Int32)))), .unset, .unset] [(.int (255 : Int32)), (.int c1), (.int ((c0 &&& (255 : Int32)) <<< ((24 : Int32) &&& 31)))])
            refine Goes.go (fun _ => XS.iand S.here B.x rfl (B.d at_172) rfl) ?_
            show Goes _ _ _ _ T (mkF me_ 173 #[.val (.int p0), .val (.int p1), .val (.int p2), .val (.int p3), .val (.int p4), .val (.int p5), .val (.int c0), .val (.int c1), .val (.int c2), .val (.int c3), .val (.ref b5), .val (.ref b6), .val (.int (bi (c0 = (0 : Int32) ∧ c1 = (-92 : Int32) ∧ c2 = (4 : Int32) ∧ c3 = (0 : Int32)))), .unset, .unset] [(.int (c1 &&& (255 : Int32))), (.int ((c0 &&& (255 : Int32)) <<< ((24 : Int32) &&& 31)))])
            refine Goes.go (fun _ => XS.bipush S.here B.x rfl (B.d at_173)) ?_
            show Goes _ _ _ _ T (mkF me_ 175 #[.val (.int p0), .val (.int p1), .val (.int p2), .val (.int p3), .val (.int p4), .val (.int p5), .val (.int c0), .val (.int c1), .val (.int c2), .val (.int c3), .val (.ref b5), .val (.ref b6), .val (.int (bi (c0 = (0 : Int32) ∧ c1 = (-92 : Int32) ∧ c2 = (4 : Int32) ∧ c3 = (0 : Int32)))), .unset, .unset] [(.int (16 : Int32)), (.int (c1 &&& (255 : Int32))), (.int ((c0 &&& (255 : Int32)) <<< ((24 : Int32) &&& 31)))])
            refine Goes.go (fun _ => XS.ishl S.here B.x rfl (B.d at_175) rfl) ?_
            show Goes _ _ _ _ T (mkF me_ 176 #[.val (.int p0), .val (.int p1), .val (.int p2), .val (.int p3), .val (.int p4), .val (.int p5), .val (.int c0), .val (.int c1), .val (.int c2), .val (.int c3), .val (.ref b5), .val (.ref b6), .val (.int (bi (c0 = (0 : Int32) ∧ c1 = (-92 : Int32) ∧ c2 = (4 : Int32) ∧ c3 = (0 : Int32)))), .unset, .unset] [(.int ((c1 &&& (255 : Int32)) <<< ((16 : Int32) &&& 31))), (.int ((c0 &&& (255 : Int32)) <<< ((24 : Int32) &&& 31)))])
            refine Goes.go (fun _ => XS.ior S.here B.x rfl (B.d at_176) rfl) ?_
            show Goes _ _ _ _ T (mkF me_ 177 #[.val (.int p0), .val (.int p1), .val (.int p2), .val (.int p3), .val (.int p4), .val (.int p5), .val (.int c0), .val (.int c1), .val (.int c2), .val (.int c3), .val (.ref b5), .val (.ref b6), .val (.int (bi (c0 = (0 : Int32) ∧ c1 = (-92 : Int32) ∧ c2 = (4 : Int32) ∧ c3 = (0 : Int32)))), .unset, .unset] [(.int (((c0 &&& (255 : Int32)) <<< ((24 : Int32) &&& 31)) ||| ((c1 &&& (255 : Int32)) <<< ((16 : Int32) &&& 31))))])
            refine Goes.go (fun _ => XS.iload S.here B.x rfl (B.d at_177) rfl) ?_
            show Goes _ _ _ _ T (mkF me_ 179 #[.val (.int p0), .val (.int p1), .val (.int p2), .val (.int p3), .val (.int p4), .val (.int p5), .val (.int c0), .val (.int c1), .val (.int c2), .val (.int c3), .val (.ref b5), .val (.ref b6), .val (.int (bi (c0 = (0 : Int32) ∧ c1 = (-92 : Int32) ∧ c2 = (4 : Int32) ∧ c3 = (0 : Int32)))), .unset, .unset] [(.int c2), (.int (((c0 &&& (255 : Int32)) <<< ((24 : Int32) &&& 31)) ||| ((c1 &&& (255 : Int32)) <<< ((16 : Int32) &&& 31))))])
            refine Goes.go (fun _ => XS.sipush S.here B.x rfl (B.d at_179)) ?_
            show Goes _ _ _ _ T (mkF me_ 182 #[.val (.int p0), .val (.int p1), .val (.int p2), .val (.int p3), .val (.int p4), .val (.int p5), .val (.int c0), .val (.int c1), .val (.int c2), .val (.int c3), .val (.ref b5), .val (.ref b6), .val (.int (bi (c0 = (0 : Int32) ∧ c1 = (-92 : Int32) ∧ c2 = (4 : Int32) ∧ c3 = (0 : Int32)))), .unset, .unset] [(.int (255 : Int32)), (.int c2), (.int (((c0 &&& (255 : Int32)) <<< ((24 : Int32) &&& 31)) ||| ((c1 &&& (255 : Int32)) <<< ((16 : Int32) &&& 31))))])
            refine Goes.go (fun _ => XS.iand S.here B.x rfl (B.d at_182) rfl) ?_
            show Goes _ _ _ _ T (mkF me_ 183 #[.val (.int p0), .val (.int p1), .val (.int p2), .val (.int p3), .val (.int p4), .val (.int p5), .val (.int c0), .val (.int c1), .val (.int c2), .val (.int c3), .val (.ref b5), .val (.ref b6), .val (.int (bi (c0 = (0 : Int32) ∧ c1 = (-92 : Int32) ∧ c2 = (4 : Int32) ∧ c3 = (0 : Int32)))), .unset, .unset] [(.int (c2 &&& (255 : Int32))), (.int (((c0 &&& (255 : Int32)) <<< ((24 : Int32) &&& 31)) ||| ((c1 &&& (255 : Int32)) <<< ((16 : Int32) &&& 31))))])
            refine Goes.go (fun _ => XS.bipush S.here B.x rfl (B.d at_183)) ?_
            show Goes _ _ _ _ T (mkF me_ 185 #[.val (.int p0), .val (.int p1), .val (.int p2), .val (.int p3), .val (.int p4), .val (.int p5), .val (.int c0), .val (.int c1), .val (.int c2), .val (.int c3), .val (.ref b5), .val (.ref b6), .val (.int (bi (c0 = (0 : Int32) ∧ c1 = (-92 : Int32) ∧ c2 = (4 : Int32) ∧ c3 = (0 : Int32)))), .unset, .unset] [(.int (8 : Int32)), (.int (c2 &&& (255 : Int32))), (.int (((c0 &&& (255 : Int32)) <<< ((24 : Int32) &&& 31)) ||| ((c1 &&& (255 : Int32)) <<< ((16 : Int32) &&& 31))))])
            refine Goes.go (fun _ => XS.ishl S.here B.x rfl (B.d at_185) rfl) ?_
            show Goes _ _ _ _ T (mkF me_ 186 #[.val (.int p0), .val (.int p1), .val (.int p2), .val (.int p3), .val (.int p4), .val (.int p5), .val (.int c0), .val (.int c1), .val (.int c2), .val (.int c3), .val (.ref b5), .val (.ref b6), .val (.int (bi (c0 = (0 : Int32) ∧ c1 = (-92 : Int32) ∧ c2 = (4 : Int32) ∧ c3 = (0 : Int32)))), .unset, .unset] [(.int ((c2 &&& (255 : Int32)) <<< ((8 : Int32) &&& 31))), (.int (((c0 &&& (255 : Int32)) <<< ((24 : Int32) &&& 31)) ||| ((c1 &&& (255 : Int32)) <<< ((16 : Int32) &&& 31))))])
            refine Goes.go (fun _ => XS.ior S.here B.x rfl (B.d at_186) rfl) ?_
            show Goes _ _ _ _ T (mkF me_ 187 #[.val (.int p0), .val (.int p1), .val (.int p2), .val (.int p3), .val (.int p4), .val (.int p5), .val (.int c0), .val (.int c1), .val (.int c2), .val (.int c3), .val (.ref b5), .val (.ref b6), .val (.int (bi (c0 = (0 : Int32) ∧ c1 = (-92 : Int32) ∧ c2 = (4 : Int32) ∧ c3 = (0 : Int32)))), .unset, .unset] [(.int ((((c0 &&& (255 : Int32)) <<< ((24 : Int32) &&& 31)) ||| ((c1 &&& (255 : Int32)) <<< ((16 : Int32) &&& 31))) ||| ((c2 &&& (255 : Int32)) <<< ((8 : Int32) &&& 31))))])
            refine Goes.go (fun _ => XS.iload S.here B.x rfl (B.d at_187) rfl) ?_
            show Goes _ _ _ _ T (mkF me_ 189 #[.val (.int p0), .val (.int p1), .val (.int p2), .val (.int p3), .val (.int p4), .val (.int p5), .val (.int c0), .val (.int c1), .val (.int c2), .val (.int c3), .val (.ref b5), .val (.ref b6), .val (.int (bi (c0 = (0 : Int32) ∧ c1 = (-92 : Int32) ∧ c2 = (4 : Int32) ∧ c3 = (0 : Int32)))), .unset, .unset] [(.int c3), (.int ((((c0 &&& (255 : Int32)) <<< ((24 : Int32) &&& 31)) ||| ((c1 &&& (255 : Int32)) <<< ((16 : Int32) &&& 31))) ||| ((c2 &&& (255 : Int32)) <<< ((8 : Int32) &&& 31))))])
            refine Goes.go (fun _ => XS.sipush S.here B.x rfl (B.d at_189)) ?_
            show Goes _ _ _ _ T (mkF me_ 192 #[.val (.int p0), .val (.int p1), .val (.int p2), .val (.int p3), .val (.int p4), .val (.int p5), .val (.int c0), .val (.int c1), .val (.int c2), .val (.int c3), .val (.ref b5), .val (.ref b6), .val (.int (bi (c0 = (0 : Int32) ∧ c1 = (-92 : Int32) ∧ c2 = (4 : Int32) ∧ c3 = (0 : Int32)))), .unset, .unset] [(.int (255 : Int32)), (.int c3), (.int ((((c0 &&& (255 : Int32)) <<< ((24 : Int32) &&& 31)) ||| ((c1 &&& (255 : Int32)) <<< ((16 : Int32) &&& 31))) ||| ((c2 &&& (255 : Int32)) <<< ((8 : Int32) &&& 31))))])
            refine Goes.go (fun _ => XS.iand S.here B.x rfl (B.d at_192) rfl) ?_
            show Goes _ _ _ _ T (mkF me_ 193 #[.val (.int p0), .val (.int p1), .val (.int p2), .val (.int p3), .val (.int p4), .val (.int p5), .val (.int c0), .val (.int c1), .val (.int c2), .val (.int c3), .val (.ref b5), .val (.ref b6), .val (.int (bi (c0 = (0 : Int32) ∧ c1 = (-92 : Int32) ∧ c2 = (4 : Int32) ∧ c3 = (0 : Int32)))), .unset, .unset] [(.int (c3 &&& (255 : Int32))), (.int ((((c0 &&& (255 : Int32)) <<< ((24 : Int32) &&& 31)) ||| ((c1 &&& (255 : Int32)) <<< ((16 : Int32) &&& 31))) ||| ((c2 &&& (255 : Int32)) <<< ((8 : Int32) &&& 31))))])
            refine Goes.go (fun _ => XS.ior S.here B.x rfl (B.d at_193) rfl) ?_
            show Goes _ _ _ _ T (mkF me_ 194 #[.val (.int p0), .val (.int p1), .val (.int p2), .val (.int p3), .val (.int p4), .val (.int p5), .val (.int c0), .val (.int c1), .val (.int c2), .val (.int c3), .val (.ref b5), .val (.ref b6), .val (.int (bi (c0 = (0 : Int32) ∧ c1 = (-92 : Int32) ∧ c2 = (4 : Int32) ∧ c3 = (0 : Int32)))), .unset, .unset] [(.int (((((c0 &&& (255 : Int32)) <<< ((24 : Int32) &&& 31)) ||| ((c1 &&& (255 : Int32)) <<< ((16 : Int32) &&& 31))) ||| ((c2 &&& (255 : Int32)) <<< ((8 : Int32) &&& 31))) ||| (c3 &&& (255 : Int32))))])
            refine Goes.go (fun _ => XS.istore S.here B.x rfl (B.d at_194) rfl (l' := #[.val (.int p0), .val (.int p1), .val (.int p2), .val (.int p3), .val (.int p4), .val (.int p5), .val (.int c0), .val (.int c1), .val (.int c2), .val (.int c3), .val (.ref b5), .val (.ref b6), .val (.int (bi (c0 = (0 : Int32) ∧ c1 = (-92 : Int32) ∧ c2 = (4 : Int32) ∧ c3 = (0 : Int32)))), .val (.int (((((c0 &&& (255 : Int32)) <<< ((24 : Int32) &&& 31)) ||| ((c1 &&& (255 : Int32)) <<< ((16 : Int32) &&& 31))) ||| ((c2 &&& (255 : Int32)) <<< ((8 : Int32) &&& 31))) ||| (c3 &&& (255 : Int32)))), .unset]) rfl) ?_
            show Goes _ _ _ _ T (mkF me_ 196 #[.val (.int p0), .val (.int p1), .val (.int p2), .val (.int p3), .val (.int p4), .val (.int p5), .val (.int c0), .val (.int c1), .val (.int c2), .val (.int c3), .val (.ref b5), .val (.ref b6), .val (.int (bi (c0 = (0 : Int32) ∧ c1 = (-92 : Int32) ∧ c2 = (4 : Int32) ∧ c3 = (0 : Int32)))), .val (.int (((((c0 &&& (255 : Int32)) <<< ((24 : Int32) &&& 31)) ||| ((c1 &&& (255 : Int32)) <<< ((16 : Int32) &&& 31))) ||| ((c2 &&& (255 : Int32)) <<< ((8 : Int32) &&& 31))) ||| (c3 &&& (255 : Int32)))), .unset] [])
            refine Goes.go (fun _ => XS.iload S.here B.x rfl (B.d at_196) rfl) ?_
            show Goes _ _ _ _ T (mkF me_ 198 #[.val (.int p0), .val (.int p1), .val (.int p2), .val (.int p3), .val (.int p4), .val (.int p5), .val (.int c0), .val (.int c1), .val (.int c2), .val (.int c3), .val (.ref b5), .val (.ref b6), .val (.int (bi (c0 = (0 : Int32) ∧ c1 = (-92 : Int32) ∧ c2 = (4 : Int32) ∧ c3 = (0 : Int32)))), .val (.int (((((c0 &&& (255 : Int32)) <<< ((24 : Int32) &&& 31)) ||| ((c1 &&& (255 : Int32)) <<< ((16 : Int32) &&& 31))) ||| ((c2 &&& (255 : Int32)) <<< ((8 : Int32) &&& 31))) ||| (c3 &&& (255 : Int32)))), .unset] [(.int (((((c0 &&& (255 : Int32)) <<< ((24 : Int32) &&& 31)) ||| ((c1 &&& (255 : Int32)) <<< ((16 : Int32) &&& 31))) ||| ((c2 &&& (255 : Int32)) <<< ((8 : Int32) &&& 31))) ||| (c3 &&& (255 : Int32))))])
            refine Goes.ldcI S B (w26 hw) at_198 ?_
            show Goes _ _ _ _ T (mkF me_ 200 #[.val (.int p0), .val (.int p1), .val (.int p2), .val (.int p3), .val (.int p4), .val (.int p5), .val (.int c0), .val (.int c1), .val (.int c2), .val (.int c3), .val (.ref b5), .val (.ref b6), .val (.int (bi (c0 = (0 : Int32) ∧ c1 = (-92 : Int32) ∧ c2 = (4 : Int32) ∧ c3 = (0 : Int32)))), .val (.int (((((c0 &&& (255 : Int32)) <<< ((24 : Int32) &&& 31)) ||| ((c1 &&& (255 : Int32)) <<< ((16 : Int32) &&& 31))) ||| ((c2 &&& (255 : Int32)) <<< ((8 : Int32) &&& 31))) ||| (c3 &&& (255 : Int32)))), .unset] [(.int (10748928 : Int32)), (.int (((((c0 &&& (255 : Int32)) <<< ((24 : Int32) &&& 31)) ||| ((c1 &&& (255 : Int32)) <<< ((16 : Int32) &&& 31))) ||| ((c2 &&& (255 : Int32)) <<< ((8 : Int32) &&& 31))) ||| (c3 &&& (255 : Int32))))])
            refine Goes.dia (P := (((((c0 &&& (255 : Int32)) <<< ((24 : Int32) &&& 31)) ||| ((c1 &&& (255 : Int32)) <<< ((16 : Int32) &&& 31))) ||| ((c2 &&& (255 : Int32)) <<< ((8 : Int32) &&& 31))) ||| (c3 &&& (255 : Int32))) = (10748928 : Int32)) (mk := fun z => (mkF me_ 208 #[.val (.int p0), .val (.int p1), .val (.int p2), .val (.int p3), .val (.int p4), .val (.int p5), .val (.int c0), .val (.int c1), .val (.int c2), .val (.int c3), .val (.ref b5), .val (.ref b6), .val (.int (bi (c0 = (0 : Int32) ∧ c1 = (-92 : Int32) ∧ c2 = (4 : Int32) ∧ c3 = (0 : Int32)))), .val (.int (((((c0 &&& (255 : Int32)) <<< ((24 : Int32) &&& 31)) ||| ((c1 &&& (255 : Int32)) <<< ((16 : Int32) &&& 31))) ||| ((c2 &&& (255 : Int32)) <<< ((8 : Int32) &&& 31))) ||| (c3 &&& (255 : Int32)))), .unset] [(.int z)])) (fun hc200 kk => ?_) (fun hc200 kk => ?_) ?_
            · skip
              refine Goes.go (fun _ => XS.icmpNo S.here B.x rfl (B.d at_200) rfl (teq hc200).2) ?_
              show Goes _ _ _ _ T (mkF me_ 203 #[.val (.int p0), .val (.int p1), .val (.int p2), .val (.int p3), .val (.int p4), .val (.int p5), .val (.int c0), .val (.int c1), .val (.int c2), .val (.int c3), .val (.ref b5), .val (.ref b6), .val (.int (bi (c0 = (0 : Int32) ∧ c1 = (-92 : Int32) ∧ c2 = (4 : Int32) ∧ c3 = (0 : Int32)))), .val (.int (((((c0 &&& (255 : Int32)) <<< ((24 : Int32) &&& 31)) ||| ((c1 &&& (255 : Int32)) <<< ((16 : Int32) &&& 31))) ||| ((c2 &&& (255 : Int32)) <<< ((8 : Int32) &&& 31))) ||| (c3 &&& (255 : Int32)))), .unset] [])
              refine Goes.go (fun _ => XS.iconst S.here B.x rfl (B.d at_203)) ?_
              show Goes _ _ _ _ T (mkF me_ 204 #[.val (.int p0), .val (.int p1), .val (.int p2), .val (.int p3), .val (.int p4), .val (.int p5), .val (.int c0), .val (.int c1), .val (.int c2), .val (.int c3), .val (.ref b5), .val (.ref b6), .val (.int (bi (c0 = (0 : Int32) ∧ c1 = (-92 : Int32) ∧ c2 = (4 : Int32) ∧ c3 = (0 : Int32)))), .val (.int (((((c0 &&& (255 : Int32)) <<< ((24 : Int32) &&& 31)) ||| ((c1 &&& (255 : Int32)) <<< ((16 : Int32) &&& 31))) ||| ((c2 &&& (255 : Int32)) <<< ((8 : Int32) &&& 31))) ||| (c3 &&& (255 : Int32)))), .unset] [(.int (1 : Int32))])
              refine Goes.go (fun _ => XS.goto S.here B.x rfl (pc0 := 204) (pc' := 208) rfl (B.d at_204) (by decide) (by decide)) ?_
              show Goes _ _ _ _ T (mkF me_ 208 #[.val (.int p0), .val (.int p1), .val (.int p2), .val (.int p3), .val (.int p4), .val (.int p5), .val (.int c0), .val (.int c1), .val (.int c2), .val (.int c3), .val (.ref b5), .val (.ref b6), .val (.int (bi (c0 = (0 : Int32) ∧ c1 = (-92 : Int32) ∧ c2 = (4 : Int32) ∧ c3 = (0 : Int32)))), .val (.int (((((c0 &&& (255 : Int32)) <<< ((24 : Int32) &&& 31)) ||| ((c1 &&& (255 : Int32)) <<< ((16 : Int32) &&& 31))) ||| ((c2 &&& (255 : Int32)) <<< ((8 : Int32) &&& 31))) ||| (c3 &&& (255 : Int32)))), .unset] [(.int (1 : Int32))])
              exact kk
            · skip
              refine Goes.go (fun _ => XS.icmpYes S.here B.x rfl (pc0 := 200) (pc' := 207) rfl (B.d at_200) rfl (feq hc200).2 (by decide) (by decide)) ?_
              show Goes _ _ _ _ T (mkF me_ 207 #[.val (.int p0), .val (.int p1), .val (.int p2), .val (.int p3), .val (.int p4), .val (.int p5), .val (.int c0), .val (.int c1), .val (.int c2), .val (.int c3), .val (.ref b5), .val (.ref b6), .val (.int (bi (c0 = (0 : Int32) ∧ c1 = (-92 : Int32) ∧ c2 = (4 : Int32) ∧ c3 = (0 : Int32)))), .val (.int (((((c0 &&& (255 : Int32)) <<< ((24 : Int32) &&& 31)) ||| ((c1 &&& (255 : Int32)) <<< ((16 : Int32) &&& 31))) ||| ((c2 &&& (255 : Int32)) <<< ((8 : Int32) &&& 31))) ||| (c3 &&& (255 : Int32)))), .unset] [])
              refine Goes.go (fun _ => XS.iconst S.here B.x rfl (B.d at_207)) ?_
              show Goes _ _ _ _ T (mkF me_ 208 #[.val (.int p0), .val (.int p1), .val (.int p2), .val (.int p3), .val (.int p4), .val (.int p5), .val (.int c0), .val (.int c1), .val (.int c2), .val (.int c3), .val (.ref b5), .val (.ref b6), .val (.int (bi (c0 = (0 : Int32) ∧ c1 = (-92 : Int32) ∧ c2 = (4 : Int32) ∧ c3 = (0 : Int32)))), .val (.int (((((c0 &&& (255 : Int32)) <<< ((24 : Int32) &&& 31)) ||| ((c1 &&& (255 : Int32)) <<< ((16 : Int32) &&& 31))) ||| ((c2 &&& (255 : Int32)) <<< ((8 : Int32) &&& 31))) ||| (c3 &&& (255 : Int32)))), .unset] [(.int (0 : Int32))])
              exact kk
            show Goes _ _ _ _ T (mkF me_ 208 #[.val (.int p0), .val (.int p1), .val (.int p2), .val (.int p3), .val (.int p4), .val (.int p5), .val (.int c0), .val (.int c1), .val (.int c2), .val (.int c3), .val (.ref b5), .val (.ref b6), .val (.int (bi (c0 = (0 : Int32) ∧ c1 = (-92 : Int32) ∧ c2 = (4 : Int32) ∧ c3 = (0 : Int32)))), .val (.int (((((c0 &&& (255 : Int32)) <<< ((24 : Int32) &&& 31)) ||| ((c1 &&& (255 : Int32)) <<< ((16 : Int32) &&& 31))) ||| ((c2 &&& (255 : Int32)) <<< ((8 : Int32) &&& 31))) ||| (c3 &&& (255 : Int32)))), .unset] [(.int (bi ((((((c0 &&& (255 : Int32)) <<< ((24 : Int32) &&& 31)) ||| ((c1 &&& (255 : Int32)) <<< ((16 : Int32) &&& 31))) ||| ((c2 &&& (255 : Int32)) <<< ((8 : Int32) &&& 31))) ||| (c3 &&& (255 : Int32))) = (10748928 : Int32))))])
            refine Goes.go (fun _ => XS.istore S.here B.x rfl (B.d at_208) rfl (l' := #[.val (.int p0), .val (.int p1), .val (.int p2), .val (.int p3), .val (.int p4), .val (.int p5), .val (.int c0), .val (.int c1), .val (.int c2), .val (.int c3), .val (.ref b5), .val (.ref b6), .val (.int (bi (c0 = (0 : Int32) ∧ c1 = (-92 : Int32) ∧ c2 = (4 : Int32) ∧ c3 = (0 : Int32)))), .val (.int (((((c0 &&& (255 : Int32)) <<< ((24 : Int32) &&& 31)) ||| ((c1 &&& (255 : Int32)) <<< ((16 : Int32) &&& 31))) ||| ((c2 &&& (255 : Int32)) <<< ((8 : Int32) &&& 31))) ||| (c3 &&& (255 : Int32)))), .val (.int (bi ((((((c0 &&& (255 : Int32)) <<< ((24 : Int32) &&& 31)) ||| ((c1 &&& (255 : Int32)) <<< ((16 : Int32) &&& 31))) ||| ((c2 &&& (255 : Int32)) <<< ((8 : Int32) &&& 31))) ||| (c3 &&& (255 : Int32))) = (10748928 : Int32))))]) rfl) ?_
            show Goes _ _ _ _ T (mkF me_ 210 #[.val (.int p0), .val (.int p1), .val (.int p2), .val (.int p3), .val (.int p4), .val (.int p5), .val (.int c0), .val (.int c1), .val (.int c2), .val (.int c3), .val (.ref b5), .val (.ref b6), .val (.int (bi (c0 = (0 : Int32) ∧ c1 = (-92 : Int32) ∧ c2 = (4 : Int32) ∧ c3 = (0 : Int32)))), .val (.int (((((c0 &&& (255 : Int32)) <<< ((24 : Int32) &&& 31)) ||| ((c1 &&& (255 : Int32)) <<< ((16 : Int32) &&& 31))) ||| ((c2 &&& (255 : Int32)) <<< ((8 : Int32) &&& 31))) ||| (c3 &&& (255 : Int32)))), .val (.int (bi ((((((c0 &&& (255 : Int32)) <<< ((24 : Int32) &&& 31)) ||| ((c1 &&& (255 : Int32)) <<< ((16 : Int32) &&& 31))) ||| ((c2 &&& (255 : Int32)) <<< ((8 : Int32) &&& 31))) ||| (c3 &&& (255 : Int32))) = (10748928 : Int32))))] [])
            refine Goes.go (fun _ => XS.iload S.here B.x rfl (B.d at_210) rfl) ?_
            show Goes _ _ _ _ T (mkF me_ 212 #[.val (.int p0), .val (.int p1), .val (.int p2), .val (.int p3), .val (.int p4), .val (.int p5), .val (.int c0), .val (.int c1), .val (.int c2), .val (.int c3), .val (.ref b5), .val (.ref b6), .val (.int (bi (c0 = (0 : Int32) ∧ c1 = (-92 : Int32) ∧ c2 = (4 : Int32) ∧ c3 = (0 : Int32)))), .val (.int (((((c0 &&& (255 : Int32)) <<< ((24 : Int32) &&& 31)) ||| ((c1 &&& (255 : Int32)) <<< ((16 : Int32) &&& 31))) ||| ((c2 &&& (255 : Int32)) <<< ((8 : Int32) &&& 31))) ||| (c3 &&& (255 : Int32)))), .val (.int (bi ((((((c0 &&& (255 : Int32)) <<< ((24 : Int32) &&& 31)) ||| ((c1 &&& (255 : Int32)) <<< ((16 : Int32) &&& 31))) ||| ((c2 &&& (255 : Int32)) <<< ((8 : Int32) &&& 31))) ||| (c3 &&& (255 : Int32))) = (10748928 : Int32))))] [(.int (bi (c0 = (0 : Int32) ∧ c1 = (-92 : Int32) ∧ c2 = (4 : Int32) ∧ c3 = (0 : Int32))))])
            refine Goes.go (fun _ => XS.iload S.here B.x rfl (B.d at_212) rfl) ?_
            show Goes _ _ _ _ T (mkF me_ 214 #[.val (.int p0), .val (.int p1), .val (.int p2), .val (.int p3), .val (.int p4), .val (.int p5), .val (.int c0), .val (.int c1), .val (.int c2), .val (.int c3), .val (.ref b5), .val (.ref b6), .val (.int (bi (c0 = (0 : Int32) ∧ c1 = (-92 : Int32) ∧ c2 = (4 : Int32) ∧ c3 = (0 : Int32)))), .val (.int (((((c0 &&& (255 : Int32)) <<< ((24 : Int32) &&& 31)) ||| ((c1 &&& (255 : Int32)) <<< ((16 : Int32) &&& 31))) ||| ((c2 &&& (255 : Int32)) <<< ((8 : Int32) &&& 31))) ||| (c3 &&& (255 : Int32)))), .val (.int (bi ((((((c0 &&& (255 : Int32)) <<< ((24 : Int32) &&& 31)) ||| ((c1 &&& (255 : Int32)) <<< ((16 : Int32) &&& 31))) ||| ((c2 &&& (255 : Int32)) <<< ((8 : Int32) &&& 31))) ||| (c3 &&& (255 : Int32))) = (10748928 : Int32))))] [(.int (bi ((((((c0 &&& (255 : Int32)) <<< ((24 : Int32) &&& 31)) ||| ((c1 &&& (255 : Int32)) <<< ((16 : Int32) &&& 31))) ||| ((c2 &&& (255 : Int32)) <<< ((8 : Int32) &&& 31))) ||| (c3 &&& (255 : Int32))) = (10748928 : Int32)))), (.int (bi (c0 = (0 : Int32) ∧ c1 = (-92 : Int32) ∧ c2 = (4 : Int32) ∧ c3 = (0 : Int32))))])
            refine Goes.go (fun _ => XS.icmpNo S.here B.x rfl (B.d at_214) rfl (teq (show (bi (c0 = (0 : Int32) ∧ c1 = (-92 : Int32) ∧ c2 = (4 : Int32) ∧ c3 = (0 : Int32))) = (bi ((((((c0 &&& (255 : Int32)) <<< ((24 : Int32) &&& 31)) ||| ((c1 &&& (255 : Int32)) <<< ((16 : Int32) &&& 31))) ||| ((c2 &&& (255 : Int32)) <<< ((8 : Int32) &&& 31))) ||| (c3 &&& (255 : Int32))) = (10748928 : Int32))) from bi_congr (own_sel c0 c1 c2 c3 hbc0 hbc1 hbc2 hbc3))).2) ?_
            show Goes _ _ _ _ T (mkF me_ 217 #[.val (.int p0), .val (.int p1), .val (.int p2), .val (.int p3), .val (.int p4), .val (.int p5), .val (.int c0), .val (.int c1), .val (.int c2), .val (.int c3), .val (.ref b5), .val (.ref b6), .val (.int (bi (c0 = (0 : Int32) ∧ c1 = (-92 : Int32) ∧ c2 = (4 : Int32) ∧ c3 = (0 : Int32)))), .val (.int (((((c0 &&& (255 : Int32)) <<< ((24 : Int32) &&& 31)) ||| ((c1 &&& (255 : Int32)) <<< ((16 : Int32) &&& 31))) ||| ((c2 &&& (255 : Int32)) <<< ((8 : Int32) &&& 31))) ||| (c3 &&& (255 : Int32)))), .val (.int (bi ((((((c0 &&& (255 : Int32)) <<< ((24 : Int32) &&& 31)) ||| ((c1 &&& (255 : Int32)) <<< ((16 : Int32) &&& 31))) ||| ((c2 &&& (255 : Int32)) <<< ((8 : Int32) &&& 31))) ||| (c3 &&& (255 : Int32))) = (10748928 : Int32))))] [])
            refine Goes.go (fun _ => XS.iconst S.here B.x rfl (B.d at_217)) ?_
            show Goes _ _ _ _ T (mkF me_ 218 #[.val (.int p0), .val (.int p1), .val (.int p2), .val (.int p3), .val (.int p4), .val (.int p5), .val (.int c0), .val (.int c1), .val (.int c2), .val (.int c3), .val (.ref b5), .val (.ref b6), .val (.int (bi (c0 = (0 : Int32) ∧ c1 = (-92 : Int32) ∧ c2 = (4 : Int32) ∧ c3 = (0 : Int32)))), .val (.int (((((c0 &&& (255 : Int32)) <<< ((24 : Int32) &&& 31)) ||| ((c1 &&& (255 : Int32)) <<< ((16 : Int32) &&& 31))) ||| ((c2 &&& (255 : Int32)) <<< ((8 : Int32) &&& 31))) ||| (c3 &&& (255 : Int32)))), .val (.int (bi ((((((c0 &&& (255 : Int32)) <<< ((24 : Int32) &&& 31)) ||| ((c1 &&& (255 : Int32)) <<< ((16 : Int32) &&& 31))) ||| ((c2 &&& (255 : Int32)) <<< ((8 : Int32) &&& 31))) ||| (c3 &&& (255 : Int32))) = (10748928 : Int32))))] [(.int (1 : Int32))])
            refine Goes.go (fun _ => XS.goto S.here B.x rfl (pc0 := 218) (pc' := 222) rfl (B.d at_218) (by decide) (by decide)) ?_
            show Goes _ _ _ _ T (mkF me_ 222 #[.val (.int p0), .val (.int p1), .val (.int p2), .val (.int p3), .val (.int p4), .val (.int p5), .val (.int c0), .val (.int c1), .val (.int c2), .val (.int c3), .val (.ref b5), .val (.ref b6), .val (.int (bi (c0 = (0 : Int32) ∧ c1 = (-92 : Int32) ∧ c2 = (4 : Int32) ∧ c3 = (0 : Int32)))), .val (.int (((((c0 &&& (255 : Int32)) <<< ((24 : Int32) &&& 31)) ||| ((c1 &&& (255 : Int32)) <<< ((16 : Int32) &&& 31))) ||| ((c2 &&& (255 : Int32)) <<< ((8 : Int32) &&& 31))) ||| (c3 &&& (255 : Int32)))), .val (.int (bi ((((((c0 &&& (255 : Int32)) <<< ((24 : Int32) &&& 31)) ||| ((c1 &&& (255 : Int32)) <<< ((16 : Int32) &&& 31))) ||| ((c2 &&& (255 : Int32)) <<< ((8 : Int32) &&& 31))) ||| (c3 &&& (255 : Int32))) = (10748928 : Int32))))] [(.int (1 : Int32))])
            refine Goes.retN S B (by simp) at_222 (by decide) (by decide) ?_
            exact rfl
          · skip
            refine Goes.go (fun _ => XS.ifNo S.here B.x rfl (B.d at_67) rfl ((if0 _ _).trans (feq hc67).1)) ?_
            show Goes _ _ _ _ T (mkF me_ 70 #[.val (.int p0), .val (.int p1), .val (.int p2), .val (.int p3), .val (.int p4), .val (.int p5), .val (.int c0), .val (.int c1), .val (.int c2), .val (.int c3), .unset, .unset, .unset, .unset, .unset] [])
            refine Goes.go (fun _ => XS.bipush S.here B.x rfl (B.d at_70)) ?_
            show Goes _ _ _ _ T (mkF me_ 72 #[.val (.int p0), .val (.int p1), .val (.int p2), .val (.int p3), .val (.int p4), .val (.int p5), .val (.int c0), .val (.int c1), .val (.int c2), .val (.int c3), .unset, .unset, .unset, .unset, .unset] [(.int (6 : Int32))])
            refine Goes.newP (aty := .byte) (cap := 6) S B (w0 hw) at_72 (by decide) (by decide) (by decide) (by decide) (by decide) ?_
            intro T h b7 S X zb g_b7 A_b7
            replace A_b7 : Ary Z h b7 .byte 6 (fun _ => (.int 0)) := A_b7
            show Goes _ _ _ _ T (mkF me_ 74 #[.val (.int p0), .val (.int p1), .val (.int p2), .val (.int p3), .val (.int p4), .val (.int p5), .val (.int c0), .val (.int c1), .val (.int c2), .val (.int c3), .unset, .unset, .unset, .unset, .unset] [(.ref b7)])
            refine Goes.go (fun _ => XS.goto S.here B.x rfl (pc0 := 74) (pc' := 80) rfl (B.d at_74) (by decide) (by decide)) ?_
            show Goes _ _ _ _ T (mkF me_ 80 #[.val (.int p0), .val (.int p1), .val (.int p2), .val (.int p3), .val (.int p4), .val (.int p5), .val (.int c0), .val (.int c1), .val (.int c2), .val (.int c3), .unset, .unset, .unset, .unset, .unset] [(.ref b7)])
            refine Goes.go (fun _ => XS.astore S.here B.x rfl (B.d at_80) rfl rfl (l' := #[.val (.int p0), .val (.int p1), .val (.int p2), .val (.int p3), .val (.int p4), .val (.int p5), .val (.int c0), .val (.int c1), .val (.int c2), .val (.int c3), .val (.ref b7), .unset, .unset, .unset, .unset]) rfl) ?_
            show Goes _ _ _ _ T (mkF me_ 82 #[.val (.int p0), .val (.int p1), .val (.int p2), .val (.int p3), .val (.int p4), .val (.int p5), .val (.int c0), .val (.int c1), .val (.int c2), .val (.int c3), .val (.ref b7), .unset, .unset, .unset, .unset] [])
            refine Goes.go (fun _ => XS.aload S.here B.x rfl (B.d at_82) rfl rfl) ?_
            show Goes _ _ _ _ T (mkF me_ 84 #[.val (.int p0), .val (.int p1), .val (.int p2), .val (.int p3), .val (.int p4), .val (.int p5), .val (.int c0), .val (.int c1), .val (.int c2), .val (.int c3), .val (.ref b7), .unset, .unset, .unset, .unset] [(.ref b7)])
            refine Goes.go (fun _ => XS.iconst S.here B.x rfl (B.d at_84)) ?_
            show Goes _ _ _ _ T (mkF me_ 85 #[.val (.int p0), .val (.int p1), .val (.int p2), .val (.int p3), .val (.int p4), .val (.int p5), .val (.int c0), .val (.int c1), .val (.int c2), .val (.int c3), .val (.ref b7), .unset, .unset, .unset, .unset] [(.int (0 : Int32)), (.ref b7)])
            refine Goes.go (fun _ => XS.iload S.here B.x rfl (B.d at_85) rfl) ?_
            show Goes _ _ _ _ T (mkF me_ 87 #[.val (.int p0), .val (.int p1), .val (.int p2), .val (.int p3), .val (.int p4), .val (.int p5), .val (.int c0), .val (.int c1), .val (.int c2), .val (.int c3), .val (.ref b7), .unset, .unset, .unset, .unset] [(.int c0), (.int (0 : Int32)), (.ref b7)])
            refine Goes.bastore S B A_b7 (by decide) (by decide) g_b7 at_87 ?_
            intro T h S W A_b7
            replace A_b7 : Ary Z h b7 .byte 6 (aup (fun _ => (.int 0)) 0 (.int (nar .byte c0))) := A_b7
            show Goes _ _ _ _ T (mkF me_ 88 #[.val (.int p0), .val (.int p1), .val (.int p2), .val (.int p3), .val (.int p4), .val (.int p5), .val (.int c0), .val (.int c1), .val (.int c2), .val (.int c3), .val (.ref b7), .unset, .unset, .unset, .unset] [])
            refine Goes.go (fun _ => XS.aload S.here B.x rfl (B.d at_88) rfl rfl) ?_
            show Goes _ _ _ _ T (mkF me_ 90 #[.val (.int p0), .val (.int p1), .val (.int p2), .val (.int p3), .val (.int p4), .val (.int p5), .val (.int c0), .val (.int c1), .val (.int c2), .val (.int c3), .val (.ref b7), .unset, .unset, .unset, .unset] [(.ref b7)])
            refine Goes.go (fun _ => XS.iconst S.here B.x rfl (B.d at_90)) ?_
            show Goes _ _ _ _ T (mkF me_ 91 #[.val (.int p0), .val (.int p1), .val (.int p2), .val (.int p3), .val (.int p4), .val (.int p5), .val (.int c0), .val (.int c1), .val (.int c2), .val (.int c3), .val (.ref b7), .unset, .unset, .unset, .unset] [(.int (1 : Int32)), (.ref b7)])
            refine Goes.go (fun _ => XS.iload S.here B.x rfl (B.d at_91) rfl) ?_
            show Goes _ _ _ _ T (mkF me_ 93 #[.val (.int p0), .val (.int p1), .val (.int p2), .val (.int p3), .val (.int p4), .val (.int p5), .val (.int c0), .val (.int c1), .val (.int c2), .val (.int c3), .val (.ref b7), .unset, .unset, .unset, .unset] [(.int c1), (.int (1 : Int32)), (.ref b7)])
            refine Goes.bastore S B A_b7 (by decide) (by decide) g_b7 at_93 ?_
            intro T h S W A_b7
            replace A_b7 : Ary Z h b7 .byte 6 (aup (aup (fun _ => (.int 0)) 0 (.int (nar .byte c0))) 1 (.int (nar .byte c1))) := A_b7
            show Goes _ _ _ _ T (mkF me_ 94 #[.val (.int p0), .val (.int p1), .val (.int p2), .val (.int p3), .val (.int p4), .val (.int p5), .val (.int c0), .val (.int c1), .val (.int c2), .val (.int c3), .val (.ref b7), .unset, .unset, .unset, .unset] [])
            refine Goes.go (fun _ => XS.aload S.here B.x rfl (B.d at_94) rfl rfl) ?_
            show Goes _ _ _ _ T (mkF me_ 96 #[.val (.int p0), .val (.int p1), .val (.int p2), .val (.int p3), .val (.int p4), .val (.int p5), .val (.int c0), .val (.int c1), .val (.int c2), .val (.int c3), .val (.ref b7), .unset, .unset, .unset, .unset] [(.ref b7)])
            refine Goes.go (fun _ => XS.iconst S.here B.x rfl (B.d at_96)) ?_
            show Goes _ _ _ _ T (mkF me_ 97 #[.val (.int p0), .val (.int p1), .val (.int p2), .val (.int p3), .val (.int p4), .val (.int p5), .val (.int c0), .val (.int c1), .val (.int c2), .val (.int c3), .val (.ref b7), .unset, .unset, .unset, .unset] [(.int (2 : Int32)), (.ref b7)])
            refine Goes.go (fun _ => XS.iload S.here B.x rfl (B.d at_97) rfl) ?_
            show Goes _ _ _ _ T (mkF me_ 99 #[.val (.int p0), .val (.int p1), .val (.int p2), .val (.int p3), .val (.int p4), .val (.int p5), .val (.int c0), .val (.int c1), .val (.int c2), .val (.int c3), .val (.ref b7), .unset, .unset, .unset, .unset] [(.int c2), (.int (2 : Int32)), (.ref b7)])
            refine Goes.bastore S B A_b7 (by decide) (by decide) g_b7 at_99 ?_
            intro T h S W A_b7
            replace A_b7 : Ary Z h b7 .byte 6 (aup (aup (aup (fun _ => (.int 0)) 0 (.int (nar .byte c0))) 1 (.int (nar .byte c1))) 2 (.int (nar .byte c2))) := A_b7
            show Goes _ _ _ _ T (mkF me_ 100 #[.val (.int p0), .val (.int p1), .val (.int p2), .val (.int p3), .val (.int p4), .val (.int p5), .val (.int c0), .val (.int c1), .val (.int c2), .val (.int c3), .val (.ref b7), .unset, .unset, .unset, .unset] [])
            refine Goes.go (fun _ => XS.aload S.here B.x rfl (B.d at_100) rfl rfl) ?_
            show Goes _ _ _ _ T (mkF me_ 102 #[.val (.int p0), .val (.int p1), .val (.int p2), .val (.int p3), .val (.int p4), .val (.int p5), .val (.int c0), .val (.int c1), .val (.int c2), .val (.int c3), .val (.ref b7), .unset, .unset, .unset, .unset] [(.ref b7)])
            refine Goes.go (fun _ => XS.iconst S.here B.x rfl (B.d at_102)) ?_
            show Goes _ _ _ _ T (mkF me_ 103 #[.val (.int p0), .val (.int p1), .val (.int p2), .val (.int p3), .val (.int p4), .val (.int p5), .val (.int c0), .val (.int c1), .val (.int c2), .val (.int c3), .val (.ref b7), .unset, .unset, .unset, .unset] [(.int (3 : Int32)), (.ref b7)])
            refine Goes.go (fun _ => XS.iload S.here B.x rfl (B.d at_103) rfl) ?_
            show Goes _ _ _ _ T (mkF me_ 105 #[.val (.int p0), .val (.int p1), .val (.int p2), .val (.int p3), .val (.int p4), .val (.int p5), .val (.int c0), .val (.int c1), .val (.int c2), .val (.int c3), .val (.ref b7), .unset, .unset, .unset, .unset] [(.int c3), (.int (3 : Int32)), (.ref b7)])
            refine Goes.bastore S B A_b7 (by decide) (by decide) g_b7 at_105 ?_
            intro T h S W A_b7
            replace A_b7 : Ary Z h b7 .byte 6 (aup (aup (aup (aup (fun _ => (.int 0)) 0 (.int (nar .byte c0))) 1 (.int (nar .byte c1))) 2 (.int (nar .byte c2))) 3 (.int (nar .byte c3))) := A_b7
            show Goes _ _ _ _ T (mkF me_ 106 #[.val (.int p0), .val (.int p1), .val (.int p2), .val (.int p3), .val (.int p4), .val (.int p5), .val (.int c0), .val (.int c1), .val (.int c2), .val (.int c3), .val (.ref b7), .unset, .unset, .unset, .unset] [])
            refine Goes.go (fun _ => XS.aload S.here B.x rfl (B.d at_106) rfl rfl) ?_
            show Goes _ _ _ _ T (mkF me_ 108 #[.val (.int p0), .val (.int p1), .val (.int p2), .val (.int p3), .val (.int p4), .val (.int p5), .val (.int c0), .val (.int c1), .val (.int c2), .val (.int c3), .val (.ref b7), .unset, .unset, .unset, .unset] [(.ref b7)])
            refine Goes.alen S B A_b7 (z := (6 : Int32)) rfl at_108 ?_
            show Goes _ _ _ _ T (mkF me_ 109 #[.val (.int p0), .val (.int p1), .val (.int p2), .val (.int p3), .val (.int p4), .val (.int p5), .val (.int c0), .val (.int c1), .val (.int c2), .val (.int c3), .val (.ref b7), .unset, .unset, .unset, .unset] [(.int (6 : Int32))])
            refine Goes.go (fun _ => XS.bipush S.here B.x rfl (B.d at_109)) ?_
            show Goes _ _ _ _ T (mkF me_ 111 #[.val (.int p0), .val (.int p1), .val (.int p2), .val (.int p3), .val (.int p4), .val (.int p5), .val (.int c0), .val (.int c1), .val (.int c2), .val (.int c3), .val (.ref b7), .unset, .unset, .unset, .unset] [(.int (6 : Int32)), (.int (6 : Int32))])
            refine Goes.go (fun _ => XS.icmpNo S.here B.x rfl (B.d at_111) rfl (by decide)) ?_
            show Goes _ _ _ _ T (mkF me_ 114 #[.val (.int p0), .val (.int p1), .val (.int p2), .val (.int p3), .val (.int p4), .val (.int p5), .val (.int c0), .val (.int c1), .val (.int c2), .val (.int c3), .val (.ref b7), .unset, .unset, .unset, .unset] [])
            refine Goes.go (fun _ => XS.aload S.here B.x rfl (B.d at_114) rfl rfl) ?_
            show Goes _ _ _ _ T (mkF me_ 116 #[.val (.int p0), .val (.int p1), .val (.int p2), .val (.int p3), .val (.int p4), .val (.int p5), .val (.int c0), .val (.int c1), .val (.int c2), .val (.int c3), .val (.ref b7), .unset, .unset, .unset, .unset] [(.ref b7)])
            refine Goes.go (fun _ => XS.iconst S.here B.x rfl (B.d at_116)) ?_
            show Goes _ _ _ _ T (mkF me_ 117 #[.val (.int p0), .val (.int p1), .val (.int p2), .val (.int p3), .val (.int p4), .val (.int p5), .val (.int c0), .val (.int c1), .val (.int c2), .val (.int c3), .val (.ref b7), .unset, .unset, .unset, .unset] [(.int (4 : Int32)), (.ref b7)])
            refine Goes.go (fun _ => XS.iload S.here B.x rfl (B.d at_117) rfl) ?_
            show Goes _ _ _ _ T (mkF me_ 119 #[.val (.int p0), .val (.int p1), .val (.int p2), .val (.int p3), .val (.int p4), .val (.int p5), .val (.int c0), .val (.int c1), .val (.int c2), .val (.int c3), .val (.ref b7), .unset, .unset, .unset, .unset] [(.int p4), (.int (4 : Int32)), (.ref b7)])
            refine Goes.go (fun _ => XS.i2b S.here B.x rfl (B.d at_119) rfl) ?_
            show Goes _ _ _ _ T (mkF me_ 120 #[.val (.int p0), .val (.int p1), .val (.int p2), .val (.int p3), .val (.int p4), .val (.int p5), .val (.int c0), .val (.int c1), .val (.int c2), .val (.int c3), .val (.ref b7), .unset, .unset, .unset, .unset] [(.int p4.toInt8.toInt32), (.int (4 : Int32)), (.ref b7)])
            refine Goes.bastore S B A_b7 (by decide) (by decide) g_b7 at_120 ?_
            intro T h S W A_b7
            replace A_b7 : Ary Z h b7 .byte 6 (aup (aup (aup (aup (aup (fun _ => (.int 0)) 0 (.int (nar .byte c0))) 1 (.int (nar .byte c1))) 2 (.int (nar .byte c2))) 3 (.int (nar .byte c3))) 4 (.int (nar .byte p4.toInt8.toInt32))) := A_b7
            show Goes _ _ _ _ T (mkF me_ 121 #[.val (.int p0), .val (.int p1), .val (.int p2), .val (.int p3), .val (.int p4), .val (.int p5), .val (.int c0), .val (.int c1), .val (.int c2), .val (.int c3), .val (.ref b7), .unset, .unset, .unset, .unset] [])
            refine Goes.go (fun _ => XS.aload S.here B.x rfl (B.d at_121) rfl rfl) ?_
            show Goes _ _ _ _ T (mkF me_ 123 #[.val (.int p0), .val (.int p1), .val (.int p2), .val (.int p3), .val (.int p4), .val (.int p5), .val (.int c0), .val (.int c1), .val (.int c2), .val (.int c3), .val (.ref b7), .unset, .unset, .unset, .unset] [(.ref b7)])
            refine Goes.go (fun _ => XS.iconst S.here B.x rfl (B.d at_123)) ?_
            show Goes _ _ _ _ T (mkF me_ 124 #[.val (.int p0), .val (.int p1), .val (.int p2), .val (.int p3), .val (.int p4), .val (.int p5), .val (.int c0), .val (.int c1), .val (.int c2), .val (.int c3), .val (.ref b7), .unset, .unset, .unset, .unset] [(.int (5 : Int32)), (.ref b7)])
            refine Goes.go (fun _ => XS.iload S.here B.x rfl (B.d at_124) rfl) ?_
            show Goes _ _ _ _ T (mkF me_ 126 #[.val (.int p0), .val (.int p1), .val (.int p2), .val (.int p3), .val (.int p4), .val (.int p5), .val (.int c0), .val (.int c1), .val (.int c2), .val (.int c3), .val (.ref b7), .unset, .unset, .unset, .unset] [(.int p4), (.int (5 : Int32)), (.ref b7)])
            refine Goes.go (fun _ => XS.bipush S.here B.x rfl (B.d at_126)) ?_
            show Goes _ _ _ _ T (mkF me_ 128 #[.val (.int p0), .val (.int p1), .val (.int p2), .val (.int p3), .val (.int p4), .val (.int p5), .val (.int c0), .val (.int c1), .val (.int c2), .val (.int c3), .val (.ref b7), .unset, .unset, .unset, .unset] [(.int (8 : Int32)), (.int p4), (.int (5 : Int32)), (.ref b7)])
            refine Goes.go (fun _ => XS.ishr S.here B.x rfl (B.d at_128) rfl) ?_
            show Goes _ _ _ _ T (mkF me_ 129 #[.val (.int p0), .val (.int p1), .val (.int p2), .val (.int p3), .val (.int p4), .val (.int p5), .val (.int c0), .val (.int c1), .val (.int c2), .val (.int c3), .val (.ref b7), .unset, .unset, .unset, .unset] [(.int (p4 >>> ((8 : Int32) &&& 31))), (.int (5 : Int32)), (.ref b7)])
            refine Goes.go (fun _ => XS.i2b S.here B.x rfl (B.d at_129) rfl) ?_
            show Goes _ _ _ _ T (mkF me_ 130 #[.val (.int p0), .val (.int p1), .val (.int p2), .val (.int p3), .val (.int p4), .val (.int p5), .val (.int c0), .val (.int c1), .val (.int c2), .val (.int c3), .val (.ref b7), .unset, .unset, .unset, .unset] [(.int (p4 >>> ((8 : Int32) &&& 31)).toInt8.toInt32), (.int (5 : Int32)), (.ref b7)])
            refine Goes.bastore S B A_b7 (by decide) (by decide) g_b7 at_130 ?_
            intro T h S W A_b7
            replace A_b7 : Ary Z h b7 .byte 6 (aup (aup (aup (aup (aup (aup (fun _ => (.int 0)) 0 (.int (nar .byte c0))) 1 (.int (nar .byte c1))) 2 (.int (nar .byte c2))) 3 (.int (nar .byte c3))) 4 (.int (nar .byte p4.toInt8.toInt32))) 5 (.int (nar .byte (p4 >>> ((8 : Int32) &&& 31)).toInt8.toInt32))) := A_b7
            show Goes _ _ _ _ T (mkF me_ 131 #[.val (.int p0), .val (.int p1), .val (.int p2), .val (.int p3), .val (.int p4), .val (.int p5), .val (.int c0), .val (.int c1), .val (.int c2), .val (.int c3), .val (.ref b7), .unset, .unset, .unset, .unset] [])
            refine Goes.newO S B (w1 hw) (w2 hw) (w3 hw) at_131 (by decide) (by decide) ?_
            intro T h b8 S X zb g_b8 E_b8 D
            have ne_b7__b8 : b7 ≠ b8 := Nat.ne_of_lt (Nat.lt_of_lt_of_le A_b7.lt (Nat.le_of_eq zb.symm))
            replace A_b7 := A_b7.ext X
            have F_b8_bytes : Fld Z h b8 "com/example/cardwarden/cardwarden/CommandApdu" "bytes" "[B" .null := D (Or.inr (w16 hw)) (ty := (.array .byte)) (by decide)
            have F_b8_lc : Fld Z h b8 "com/example/cardwarden/cardwarden/CommandApdu" "lc" "I" (.int (0 : Int32)) := D (Or.inr (w18 hw)) (ty := .int) (by decide)
            have F_b8_ne : Fld Z h b8 "com/example/cardwarden/cardwarden/CommandApdu" "ne" "I" (.int (0 : Int32)) := D (Or.inr (w20 hw)) (ty := .int) (by decide)
            show Goes _ _ _ _ T (mkF me_ 134 #[.val (.int p0), .val (.int p1), .val (.int p2), .val (.int p3), .val (.int p4), .val (.int p5), .val (.int c0), .val (.int c1), .val (.int c2), .val (.int c3), .val (.ref b7), .unset, .unset, .unset, .unset] [(.ref b8)])
            refine Goes.go (fun _ => XS.dup S.here B.x rfl (B.d at_134) rfl rfl) ?_
            show Goes _ _ _ _ T (mkF me_ 135 #[.val (.int p0), .val (.int p1), .val (.int p2), .val (.int p3), .val (.int p4), .val (.int p5), .val (.int c0), .val (.int c1), .val (.int c2), .val (.int c3), .val (.ref b7), .unset, .unset, .unset, .unset] [(.ref b8), (.ref b8)])
            refine Goes.go (fun _ => XS.aload S.here B.x rfl (B.d at_135) rfl rfl) ?_
            show Goes _ _ _ _ T (mkF me_ 137 #[.val (.int p0), .val (.int p1), .val (.int p2), .val (.int p3), .val (.int p4), .val (.int p5), .val (.int c0), .val (.int c1), .val (.int c2), .val (.int c3), .val (.ref b7), .unset, .unset, .unset, .unset] [(.ref b7), (.ref b8), (.ref b8)])
            refine Goes.go (fun _ => XS.iload S.here B.x rfl (B.d at_137) rfl) ?_
            show Goes _ _ _ _ T (mkF me_ 139 #[.val (.int p0), .val (.int p1), .val (.int p2), .val (.int p3), .val (.int p4), .val (.int p5), .val (.int c0), .val (.int c1), .val (.int c2), .val (.int c3), .val (.ref b7), .unset, .unset, .unset, .unset] [(.int p4), (.ref b7), (.ref b8), (.ref b8)])
            refine Goes.go (fun _ => XS.bipush S.here B.x rfl (B.d at_139)) ?_
            show Goes _ _ _ _ T (mkF me_ 141 #[.val (.int p0), .val (.int p1), .val (.int p2), .val (.int p3), .val (.int p4), .val (.int p5), .val (.int c0), .val (.int c1), .val (.int c2), .val (.int c3), .val (.ref b7), .unset, .unset, .unset, .unset] [(.int (16 : Int32)), (.int p4), (.ref b7), (.ref b8), (.ref b8)])
            refine Goes.go (fun _ => XS.ishr S.here B.x rfl (B.d at_141) rfl) ?_
            show Goes _ _ _ _ T (mkF me_ 142 #[.val (.int p0), .val (.int p1), .val (.int p2), .val (.int p3), .val (.int p4), .val (.int p5), .val (.int c0), .val (.int c1), .val (.int c2), .val (.int c3), .val (.ref b7), .unset, .unset, .unset, .unset] [(.int (p4 >>> ((16 : Int32) &&& 31))), (.ref b7), (.ref b8), (.ref b8)])
            refine Goes.go (fun _ => XS.iload S.here B.x rfl (B.d at_142) rfl) ?_
            show Goes _ _ _ _ T (mkF me_ 144 #[.val (.int p0), .val (.int p1), .val (.int p2), .val (.int p3), .val (.int p4), .val (.int p5), .val (.int c0), .val (.int c1), .val (.int c2), .val (.int c3), .val (.ref b7), .unset, .unset, .unset, .unset] [(.int p5), (.int (p4 >>> ((16 : Int32) &&& 31))), (.ref b7), (.ref b8), (.ref b8)])
            refine Goes.go (fun _ => XS.iconst S.here B.x rfl (B.d at_144)) ?_
            show Goes _ _ _ _ T (mkF me_ 145 #[.val (.int p0), .val (.int p1), .val (.int p2), .val (.int p3), .val (.int p4), .val (.int p5), .val (.int c0), .val (.int c1), .val (.int c2), .val (.int c3), .val (.ref b7), .unset, .unset, .unset, .unset] [(.int (5 : Int32)), (.int p5), (.int (p4 >>> ((16 : Int32) &&& 31))), (.ref b7), (.ref b8), (.ref b8)])
            refine Goes.go (fun _ => XS.ishr S.here B.x rfl (B.d at_145) rfl) ?_
            show Goes _ _ _ _ T (mkF me_ 146 #[.val (.int p0), .val (.int p1), .val (.int p2), .val (.int p3), .val (.int p4), .val (.int p5), .val (.int c0), .val (.int c1), .val (.int c2), .val (.int c3), .val (.ref b7), .unset, .unset, .unset, .unset] [(.int (p5 >>> ((5 : Int32) &&& 31))), (.int (p4 >>> ((16 : Int32) &&& 31))), (.ref b7), (.ref b8), (.ref b8)])
            refine Goes.callI (argsL := [(.ref b7), (.int (p4 >>> ((16 : Int32) &&& 31))), (.int (p5 >>> ((5 : Int32) &&& 31)))]) (rest := [(.ref b8)]) (W := 1) S B (rmI l Z aw hw b8 b7 (p4 >>> ((16 : Int32) &&& 31)) (p5 >>> ((5 : Int32) &&& 31)) _ n0 E_b8 F_b8_bytes F_b8_lc F_b8_ne g_b8) (w4 hw) (w5 hw) (w3 hw) (w6 hw) (by decide) rfl (by decide) (by decide) (by decide) (by decide) rfl (lenOf pd_1 rfl) rfl (Nat.le_of_eq rfl) at_146 ?_
            intro v T h S hQ
            obtain ⟨rfl, Kc, E_b8', F_b8_bytes', F_b8_lc', F_b8_ne'⟩ := hQ
            replace A_b7 := A_b7.keep Kc (ninS ne_b7__b8 nin0)
            replace E_b8 := E_b8'
            replace F_b8_bytes := F_b8_bytes'
            replace F_b8_lc := F_b8_lc'
            replace F_b8_ne := F_b8_ne'
            show Goes _ _ _ _ T (mkF me_ 149 #[.val (.int p0), .val (.int p1), .val (.int p2), .val (.int p3), .val (.int p4), .val (.int p5), .val (.int c0), .val (.int c1), .val (.int c2), .val (.int c3), .val (.ref b7), .unset, .unset, .unset, .unset] [(.ref b8)])
            refine Goes.go (fun _ => XS.astore S.here B.x rfl (B.d at_149) rfl rfl (l' := #[.val (.int p0), .val (.int p1), .val (.int p2), .val (.int p3), .val (.int p4), .val (.int p5), .val (.int c0), .val (.int c1), .val (.int c2), .val (.int c3), .val (.ref b7), .val (.ref b8), .unset, .unset, .unset]) rfl) ?_
            show Goes _ _ _ _ T (mkF me_ 151 #[.val (.int p0), .val (.int p1), .val (.int p2), .val (.int p3), .val (.int p4), .val (.int p5), .val (.int c0), .val (.int c1), .val (.int c2), .val (.int c3), .val (.ref b7), .val (.ref b8), .unset, .unset, .unset] [])
            refine Goes.go (fun _ => XS.aload S.here B.x rfl (B.d at_151) rfl rfl) ?_
            show Goes _ _ _ _ T (mkF me_ 153 #[.val (.int p0), .val (.int p1), .val (.int p2), .val (.int p3), .val (.int p4), .val (.int p5), .val (.int c0), .val (.int c1), .val (.int c2), .val (.int c3), .val (.ref b7), .val (.ref b8), .unset, .unset, .unset] [(.ref b8)])
            refine Goes.callV (argsL := []) (rest := []) (W := 0) S B (rm_sel l Z aw hw b8 b7 6 (aup (aup (aup (aup (aup (aup (fun _ => (.int 0)) 0 (.int (nar .byte c0))) 1 (.int (nar .byte c1))) 2 (.int (nar .byte c2))) 3 (.int (nar .byte c3))) 4 (.int (nar .byte p4.toInt8.toInt32))) 5 (.int (nar .byte (p4 >>> ((8 : Int32) &&& 31)).toInt8.toInt32))) c0 c1 c2 c3 _ n0 F_b8_bytes A_b7 (by decide) (own_v hbc0) (own_v hbc1) (own_v hbc2) (own_v hbc3)) E_b8 (w21 hw) (w22 hw) (w24 hw) (w23 hw) (w3 hw) (w25 hw) (by decide) (by decide) (by decide) (by decide) (by decide) rfl (lenOf pd_2 rfl) rfl (Nat.le_of_eq rfl) at_153 ?_
            intro v T h S hQ
            obtain ⟨rfl, hh⟩ := hQ
            replace hh := hh.symm
            subst hh
            show Goes _ _ _ _ T (mkF me_ 156 #[.val (.int p0), .val (.int p1), .val (.int p2), .val (.int p3), .val (.int p4), .val (.int p5), .val (.int c0), .val (.int c1), .val (.int c2), .val (.int c3), .val (.ref b7), .val (.ref b8), .unset, .unset, .unset] [(.int (bi (c0 = (0 : Int32) ∧ c1 = (-92 : Int32) ∧ c2 = (4 : Int32) ∧ c3 = (0 : Int32))))])
            refine Goes.go (fun _ => XS.istore S.here B.x rfl (B.d at_156) rfl (l' := #[.val (.int p0), .val (.int p1), .val (.int p2), .val (.int p3), .val (.int p4), .val (.int p5), .val (.int c0), .val (.int c1), .val (.int c2), .val (.int c3), .val (.ref b7), .val (.ref b8), .val (.int (bi (c0 = (0 : Int32) ∧ c1 = (-92 : Int32) ∧ c2 = (4 : Int32) ∧ c3 = (0 : Int32)))), .unset, .unset]) rfl) ?_
            show Goes _ _ _ _ T (mkF me_ 158 #[.val (.int p0), .val (.int p1), .val (.int p2), .val (.int p3), .val (.int p4), .val (.int p5), .val (.int c0), .val (.int c1), .val (.int c2), .val (.int c3), .val (.ref b7), .val (.ref b8), .val (.int (bi (c0 = (0 : Int32) ∧ c1 = (-92 : Int32) ∧ c2 = (4 : Int32) ∧ c3 = (0 : Int32)))), .unset, .unset] [])
            refine Goes.go (fun _ => XS.iload S.here B.x rfl (B.d at_158) rfl) ?_
            show Goes _ _ _ _ T (mkF me_ 160 #[.val (.int p0), .val (.int p1), .val (.int p2), .val (.int p3), .val (.int p4), .val (.int p5), .val (.int c0), .val (.int c1), .val (.int c2), .val (.int c3), .val (.ref b7), .val (.ref b8), .val (.int (bi (c0 = (0 : Int32) ∧ c1 = (-92 : Int32) ∧ c2 = (4 : Int32) ∧ c3 = (0 : Int32)))), .unset, .unset] [(.int c0)])
            refine Goes.go (fun _ => XS.sipush S.here B.x rfl (B.d at_160)) ?_
            show Goes _ _ _ _ T (mkF me_ 163 #[.val (.int p0), .val (.int p1), .val (.int p2), .val (.int p3), .val (.int p4), .val (.int p5), .val (.int c0), .val (.int c1), .val (.int c2), .val (.int c3), .val (.ref b7), .val (.ref b8), .val (.int (bi (c0 = (0 : Int32) ∧ c1 = (-92 : Int32) ∧ c2 = (4 : Int32) ∧ c3 = (0 : Int32)))), .unset, .unset] [(.int (255 : Int32)), (.int c0)])
            refine Goes.go (fun _ => XS.iand S.here B.x rfl (B.d at_163) rfl) ?_
            show Goes _ _ _ _ T (mkF me_ 164 #[.val (.int p0), .val (.int p1), .val (.int p2), .val (.int p3), .val (.int p4), .val (.int p5), .val (.int c0), .val (.int c1), .val (.int c2), .val (.int c3), .val (.ref b7), .val (.ref b8), .val (.int (bi (c0 = (0 : Int32) ∧ c1 = (-92 : Int32) ∧ c2 = (4 : Int32) ∧ c3 = (0 : Int32)))), .unset, .unset] [(.int (c0 &&& (255 : Int32)))])
            refine Goes.go (fun _ => XS.bipush S.here B.x rfl (B.d at_164)) ?_
            show Goes _ _ _ _ T (mkF me_ 166 #[.val (.int p0), .val (.int p1), .val (.int p2), .val (.int p3), .val (.int p4), .val (.int p5), .val (.int c0), .val (.int c1), .val (.int c2), .val (.int c3), .val (.ref b7), .val (.ref b8), .val (.int (bi (c0 = (0 : Int32) ∧ c1 = (-92 : Int32) ∧ c2 = (4 : Int32) ∧ c3 = (0 : Int32)))), .unset, .unset] [(.int (24 : Int32)), (.int (c0 &&& (255 : Int32)))])
            refine Goes.go (fun _ => XS.ishl S.here B.x rfl (B.d at_166) rfl) ?_
            show Goes _ _ _ _ T (mkF me_ 167 #[.val (.int p0), .val (.int p1), .val (.int p2), .val (.int p3), .val (.int p4), .val (.int p5), .val (.int c0), .val (.int c1), .val (.int c2), .val (.int c3), .val (.ref b7), .val (.ref b8), .val (.int (bi (c0 = (0 : Int32) ∧ c1 = (-92 : Int32) ∧ c2 = (4 : Int32) ∧ c3 = (0 : Int32)))), .unset, .unset] [(.int ((c0 &&& (255 : Int32)) <<< ((24 : Int32) &&& 31)))])
            refine Goes.go (fun _ => XS.iload S.here B.x rfl (B.d at_167) rfl) ?_
            show Goes _ _ _ _ T (mkF me_ 169 #[.val (.int p0), .val (.int p1), .val (.int p2), .val (.int p3), .val (.int p4), .val (.int p5), .val (.int c0), .val (.int c1), .val (.int c2), .val (.int c3), .val (.ref b7), .val (.ref b8), .val (.int (bi (c0 = (0 : Int32) ∧ c1 = (-92 : Int32) ∧ c2 = (4 : Int32) ∧ c3 = (0 : Int32)))), .unset, .unset] [(.int c1), (.int ((c0 &&& (255 : Int32)) <<< ((24 : Int32) &&& 31)))])
            refine Goes.go (fun _ => XS.sipush S.here B.x rfl (B.d at_169)) ?_
            show Goes _ _ _ _ T (mkF me_ 172 #[.val (.int p0), .val (.int p1), .val (.int p2), .val (.int p3), .val (.int p4), .val (.int p5), .val (.int c0), .val (.int c1), .val (.int c2), .val (.int c3), .val (.ref b7), .val (.ref b8), .val (.int (bi (c0 = (0 : Int32) ∧ c1 = (-92 : Int32) ∧ c2 = (4 : Int32) ∧ c3 = (0 : Int32)))), .unset, .unset] [(.int (255 : Int32)), (.int c1), (.int ((c0 &&& (255 : Int32)) <<< ((24 : Int32) &&& 31)))])
            refine Goes.go (fun _ => XS.iand S.here B.x rfl (B.d at_172) rfl) ?_
            show Goes _ _ _ _ T (mkF me_ 173 #[.val (.int p0), .val (.int p1), .val (.int p2), .val (.int p3), .val (.int p4), .val (.int p5), .val (.int c0), .val (.int c1), .val (.int c2), .val (.int c3), .val (.ref b7), .val (.ref b8), .val (.int (bi (c0 = (0 : Int32) ∧ c1 = (-92 : Int32) ∧ c2 = (4 : Int32) ∧ c3 = (0 : Int32)))), .unset, .unset] [(.int (c1 &&& (255 : Int32))), (.int ((c0 &&& (255 : Int32)) <<< ((24 : Int32) &&& 31)))])
            refine Goes.go (fun _ => XS.bipush S.here B.x rfl (B.d at_173)) ?_
            show Goes _ _ _ _ T (mkF me_ 175 #[.val (.int p0), .val (.int p1), .val (.int p2), .val (.int p3), .val (.int p4), .val (.int p5), .val (.int c0), .val (.int c1), .val (.int c2), .val (.int c3), .val (.ref b7), .val (.ref b8), .val (.int (bi (c0 = (0 : Int32) ∧ c1 = (-92 : Int32) ∧ c2 = (4 : Int32) ∧ c3 = (0 : Int32)))), .unset, .unset] [(.int (16 : Int32)), (.int (c1 &&& (255 : Int32))), (.int ((c0 &&& (255 : Int32)) <<< ((24 : Int32) &&& 31)))])
            refine Goes.go (fun _ => XS.ishl S.here B.x rfl (B.d at_175) rfl) ?_
            show Goes _ _ _ _ T (mkF me_ 176 #[.val (.int p0), .val (.int p1), .val (.int p2), .val (.int p3), .val (.int p4), .val (.int p5), .val (.int c0), .val (.int c1), .val (.int c2), .val (.int c3), .val (.ref b7), .val (.ref b8), .val (.int (bi (c0 = (0 : Int32) ∧ c1 = (-92 : Int32) ∧ c2 = (4 : Int32) ∧ c3 = (0 : Int32)))), .unset, .unset] [(.int ((c1 &&& (255 : Int32)) <<< ((16 : Int32) &&& 31))), (.int ((c0 &&& (255 : Int32)) <<< ((24 : Int32) &&& 31)))])
            refine Goes.go (fun _ => XS.ior S.here B.x rfl (B.d at_176) rfl) ?_
            show Goes _ _ _ _ T (mkF me_ 177 #[.val (.int p0), .val (.int p1), .val (.int p2), .val (.int p3), .val (.int p4), .val (.int p5), .val (.int c0), .val (.int c1), .val (.int c2), .val (.int c3), .val (.ref b7), .val (.ref b8), .val (.int (bi (c0 = (0 : Int32) ∧ c1 = (-92 : Int32) ∧ c2 = (4 : Int32) ∧ c3 = (0 : Int32)))), .unset, .unset] [(.int (((c0 &&& (255 : Int32)) <<< ((24 : Int32) &&& 31)) ||| ((c1 &&& (255 : Int32)) <<< ((16 : Int32) &&& 31))))])
            refine Goes.go (fun _ => XS.iload S.here B.x rfl (B.d at_177) rfl) ?_
            show Goes _ _ _ _ T (mkF me_ 179 #[.val (.int p0), .val (.int p1), .val (.int p2), .val (.int p3), .val (.int p4), .val (.int p5), .val (.int c0), .val (.int c1), .val (.int c2), .val (.int c3), .val (.ref b7), .val (.ref b8), .val (.int (bi (c0 = (0 : Int32) ∧ c1 = (-92 : Int32) ∧ c2 = (4 : Int32) ∧ c3 = (0 : Int32)))), .unset, .unset] [(.int c2), (.int (((c0 &&& (255 : Int32)) <<< ((24 : Int32) &&& 31)) ||| ((c1 &&& (255 : Int32)) <<< ((16 : Int32) &&& 31))))])
            refine Goes.go (fun _ => XS.sipush S.here B.x rfl (B.d at_179)) ?_
            show Goes _ _ _ _ T (mkF me_ 182 #[.val (.int p0), .val (.int p1), .val (.int p2), .val (.int p3), .val (.int p4), .val (.int p5), .val (.int c0), .val (.int c1), .val (.int c2), .val (.int c3), .val (.ref b7), .val (.ref b8), .val (.int (bi (c0 = (0 : Int32) ∧ c1 = (-92 : Int32) ∧ c2 = (4 : Int32) ∧ c3 = (0 : Int32)))), .unset, .unset] [(.int (255 : Int32)), (.int c2), (.int (((c0 &&& (255 : Int32)) <<< ((24 : Int32) &&& 31)) ||| ((c1 &&& (255 : Int32)) <<< ((16 : Int32) &&& 31))))])
            refine Goes.go (fun _ => XS.iand S.here B.x rfl (B.d at_182) rfl) ?_
            show Goes _ _ _ _ T (mkF me_ 183 #[.val (.int p0), .val (.int p1), .val (.int p2), .val (.int p3), .val (.int p4), .val (.int p5), .val (.int c0), .val (.int c1), .val (.int c2), .val (.int c3), .val (.ref b7), .val (.ref b8), .val (.int (bi (c0 = (0 : Int32) ∧ c1 = (-92 : Int32) ∧ c2 = (4 : Int32) ∧ c3 = (0 : Int32)))), .unset, .unset] [(.int (c2 &&& (255 : Int32))), (.int (((c0 &&& (255 : Int32)) <<< ((24 : Int32) &&& 31)) ||| ((c1 &&& (255 : Int32)) <<< ((16 : Int32) &&& 31))))])
            refine Goes.go (fun _ => XS.bipush S.here B.x rfl (B.d at_183)) ?_
            show Goes _ _ _ _ T (mkF me_ 185 #[.val (.int p0), .val (.int p1), .val (.int p2), .val (.int p3), .val (.int p4), .val (.int p5), .val (.int c0), .val (.int c1), .val (.int c2), .val (.int c3), .val (.ref b7), .val (.ref b8), .val (.int (bi (c0 = (0 : Int32) ∧ c1 = (-92 : Int32) ∧ c2 = (4 : Int32) ∧ c3 = (0 : Int32)))), .unset, .unset] [(.int (8 : Int32)), (.int (c2 &&& (255 : Int32))), (.int (((c0 &&& (255 : Int32)) <<< ((24 : Int32) &&& 31)) ||| ((c1 &&& (255 : Int32)) <<< ((16 : Int32) &&& 31))))])
            refine Goes.go (fun _ => XS.ishl S.here B.x rfl (B.d at_185) rfl) ?_
            show Goes _ _ _ _ T (mkF me_ 186 #[.val (.int p0), .val (.int p1), .val (.int p2), .val (.int p3), .val (.int p4), .val (.int p5), .val (.int c0), .val (.int c1), .val (.int c2), .val (.int c3), .val (.ref b7), .val (.ref b8), .val (.int (bi (c0 = (0 : Int32) ∧ c1 = (-92 : Int32) ∧ c2 = (4 : Int32) ∧ c3 = (0 : Int32)))), .unset, .unset] [(.int ((c2 &&& (255 : Int32)) <<< ((8 : Int32) &&& 31))), (.int (((c0 &&& (255 : Int32)) <<< ((24 : Int32) &&& 31)) ||| ((c1 &&& (255 : Int32)) <<< ((16 : Int32) &&& 31))))])
            refine Goes.go (fun _ => XS.ior S.here B.x rfl (B.d at_186) rfl) ?_
            show Goes _ _ _ _ T (mkF me_ 187 #[.val (.int p0), .val (.int p1), .val (.int p2), .val (.int p3), .val (.int p4), .val (.int p5), .val (.int c0), .val (.int c1), .val (.int c2), .val (.int c3), .val (.ref b7), .val (.ref b8), .val (.int (bi (c0 = (0 : Int32) ∧ c1 = (-92 : Int32) ∧ c2 = (4 : Int32) ∧ c3 = (0 : Int32)))), .unset, .unset] [(.int ((((c0 &&& (255 : Int32)) <<< ((24 : Int32) &&& 31)) ||| ((c1 &&& (255 : Int32)) <<< ((16 : Int32) &&& 31))) ||| ((c2 &&& (255 : Int32)) <<< ((8 : Int32) &&& 31))))])
            refine Goes.go (fun _ => XS.iload S.here B.x rfl (B.d at_187) rfl) ?_
            show Goes _ _ _ _ T (mkF me_ 189 #[.val (.int p0), .val (.int p1), .val (.int p2), .val (.int p3), .val (.int p4), .val (.int p5), .val (.int c0), .val (.int c1), .val (.int c2), .val (.int c3), .val (.ref b7), .val (.ref b8), .val (.int (bi (c0 = (0 : Int32) ∧ c1 = (-92 : Int32) ∧ c2 = (4 : Int32) ∧ c3 = (0 : Int32)))), .unset, .unset] [(.int c3), (.int ((((c0 &&& (255 : Int32)) <<< ((24 : Int32) &&& 31)) ||| ((c1 &&& (255 : Int32)) <<< ((16 : Int32) &&& 31))) ||| ((c2 &&& (255 : Int32)) <<< ((8 : Int32) &&& 31))))])
            refine Goes.go (fun _ => XS.sipush S.here B.x rfl (B.d at_189)) ?_
            show Goes _ _ _ _ T (mkF me_ 192 #[.val (.int p0), .val (.int p1), .val (.int p2), .val (.int p3), .val (.int p4), .val (.int p5), .val (.int c0), .val (.int c1), .val (.int c2), .val (.int c3), .val (.ref b7), .val (.ref b8), .val (.int (bi (c0 = (0 : Int32) ∧ c1 = (-92 : Int32) ∧ c2 = (4 : Int32) ∧ c3 = (0 : Int32)))), .unset, .unset] [(.int (255 : Int32)), (.int c3), (.int ((((c0 &&& (255 : Int32)) <<< ((24 : Int32) &&& 31)) ||| ((c1 &&& (255 : Int32)) <<< ((16 : Int32) &&& 31))) ||| ((c2 &&& (255 : Int32)) <<< ((8 : Int32) &&& 31))))])
            refine Goes.go (fun _ => XS.iand S.here B.x rfl (B.d at_192) rfl) ?_
            show Goes _ _ _ _ T (mkF me_ 193 #[.val (.int p0), .val (.int p1), .val (.int p2), .val (.int p3), .val (.int p4), .val (.int p5), .val (.int c0), .val (.int c1), .val (.int c2), .val (.int c3), .val (.ref b7), .val (.ref b8), .val (.int (bi (c0 = (0 : Int32) ∧ c1 = (-92 : Int32) ∧ c2 = (4 : Int32) ∧ c3 = (0 : Int32)))), .unset, .unset] [(.int (c3 &&& (255 : Int32))), (.int ((((c0 &&& (255 : Int32)) <<< ((24 : Int32) &&& 31)) ||| ((c1 &&& (255 : Int32)) <<< ((16 : Int32) &&& 31))) ||| ((c2 &&& (255 : Int32)) <<< ((8 : Int32) &&& 31))))])
            refine Goes.go (fun _ => XS.ior S.here B.x rfl (B.d at_193) rfl) ?_
            show Goes _ _ _ _ T (mkF me_ 194 #[.val (.int p0), .val (.int p1), .val (.int p2), .val (.int p3), .val (.int p4), .val (.int p5), .val (.int c0), .val (.int c1), .val (.int c2), .val (.int c3), .val (.ref b7), .val (.ref b8), .val (.int (bi (c0 = (0 : Int32) ∧ c1 = (-92 : Int32) ∧ c2 = (4 : Int32) ∧ c3 = (0 : Int32)))), .unset, .unset] [(.int (((((c0 &&& (255 : Int32)) <<< ((24 : Int32) &&& 31)) ||| ((c1 &&& (255 : Int32)) <<< ((16 : Int32) &&& 31))) ||| ((c2 &&& (255 : Int32)) <<< ((8 : Int32) &&& 31))) ||| (c3 &&& (255 : Int32))))])
            refine Goes.go (fun _ => XS.istore S.here B.x rfl (B.d at_194) rfl (l' := #[.val (.int p0), .val (.int p1), .val (.int p2), .val (.int p3), .val (.int p4), .val (.int p5), .val (.int c0), .val (.int c1), .val (.int c2), .val (.int c3), .val (.ref b7), .val (.ref b8), .val (.int (bi (c0 = (0 : Int32) ∧ c1 = (-92 : Int32) ∧ c2 = (4 : Int32) ∧ c3 = (0 : Int32)))), .val (.int (((((c0 &&& (255 : Int32)) <<< ((24 : Int32) &&& 31)) ||| ((c1 &&& (255 : Int32)) <<< ((16 : Int32) &&& 31))) ||| ((c2 &&& (255 : Int32)) <<< ((8 : Int32) &&& 31))) ||| (c3 &&& (255 : Int32)))), .unset]) rfl) ?_
            show Goes _ _ _ _ T (mkF me_ 196 #[.val (.int p0), .val (.int p1), .val (.int p2), .val (.int p3), .val (.int p4), .val (.int p5), .val (.int c0), .val (.int c1), .val (.int c2), .val (.int c3), .val (.ref b7), .val (.ref b8), .val (.int (bi (c0 = (0 : Int32) ∧ c1 = (-92 : Int32) ∧ c2 = (4 : Int32) ∧ c3 = (0 : Int32)))), .val (.int (((((c0 &&& (255 : Int32)) <<< ((24 : Int32) &&& 31)) ||| ((c1 &&& (255 : Int32)) <<< ((16 : Int32) &&& 31))) ||| ((c2 &&& (255 : Int32)) <<< ((8 : Int32) &&& 31))) ||| (c3 &&& (255 : Int32)))), .unset] [])
            refine Goes.go (fun _ => XS.iload S.here B.x rfl (B.d at_196) rfl) ?_
            show Goes _ _ _ _ T (mkF me_ 198 #[.val (.int p0), .val (.int p1), .val (.int p2), .val (.int p3), .val (.int p4), .val (.int p5), .val (.int c0), .val (.int c1), .val (.int c2), .val (.int c3), .val (.ref b7), .val (.ref b8), .val (.int (bi (c0 = (0 : Int32) ∧ c1 = (-92 : Int32) ∧ c2 = (4 : Int32) ∧ c3 = (0 : Int32)))), .val (.int (((((c0 &&& (255 : Int32)) <<< ((24 : Int32) &&& 31)) ||| ((c1 &&& (255 : Int32)) <<< ((16 : Int32) &&& 31))) ||| ((c2 &&& (255 : Int32)) <<< ((8 : Int32) &&& 31))) ||| (c3 &&& (255 : Int32)))), .unset] [(.int (((((c0 &&& (255 : Int32)) <<< ((24 : Int32) &&& 31)) ||| ((c1 &&& (255 : Int32)) <<< ((16 : Int32) &&& 31))) ||| ((c2 &&& (255 : Int32)) <<< ((8 : Int32) &&& 31))) ||| (c3 &&& (255 : Int32))))])
            refine Goes.ldcI S B (w26 hw) at_198 ?_
            show Goes _ _ _ _ T (mkF me_ 200 #[.val (.int p0), .val (.int p1), .val (.int p2), .val (.int p3), .val (.int p4), .val (.int p5), .val (.int c0), .val (.int c1), .val (.int c2), .val (.int c3), .val (.ref b7), .val (.ref b8), .val (.int (bi (c0 = (0 : Int32) ∧ c1 = (-92 : Int32) ∧ c2 = (4 : Int32) ∧ c3 = (0 : Int32)))), .val (.int (((((c0 &&& (255 : Int32)) <<< ((24 : Int32) &&& 31)) ||| ((c1 &&& (255 : Int32)) <<< ((16 : Int32) &&& 31))) ||| ((c2 &&& (255 : Int32)) <<< ((8 : Int32) &&& 31))) ||| (c3 &&& (255 : Int32)))), .unset] [(.int (10748928 : Int32)), (.int (((((c0 &&& (255 : Int32)) <<< ((24 : Int32) &&& 31)) ||| ((c1 &&& (255 : Int32)) <<< ((16 : Int32) &&& 31))) ||| ((c2 &&& (255 : Int32)) <<< ((8 : Int32) &&& 31))) ||| (c3 &&& (255 : Int32))))])
            refine Goes.dia (P := (((((c0 &&& (255 : Int32)) <<< ((24 : Int32) &&& 31)) ||| ((c1 &&& (255 : Int32)) <<< ((16 : Int32) &&& 31))) ||| ((c2 &&& (255 : Int32)) <<< ((8 : Int32) &&& 31))) ||| (c3 &&& (255 : Int32))) = (10748928 : Int32)) (mk := fun z => (mkF me_ 208 #[.val (.int p0), .val (.int p1), .val (.int p2), .val (.int p3), .val (.int p4), .val (.int p5), .val (.int c0), .val (.int c1), .val (.int c2), .val (.int c3), .val (.ref b7), .val (.ref b8), .val (.int (bi (c0 = (0 : Int32) ∧ c1 = (-92 : Int32) ∧ c2 = (4 : Int32) ∧ c3 = (0 : Int32)))), .val (.int (((((c0 &&& (255 : Int32)) <<< ((24 : Int32) &&& 31)) ||| ((c1 &&& (255 : Int32)) <<< ((16 : Int32) &&& 31))) ||| ((c2 &&& (255 : Int32)) <<< ((8 : Int32) &&& 31))) ||| (c3 &&& (255 : Int32)))), .unset] [(.int z)])) (fun hc200 kk => ?_) (fun hc200 kk => ?_) ?_
            · skip
              refine Goes.go (fun _ => XS.icmpNo S.here B.x rfl (B.d at_200) rfl (teq hc200).2) ?_
              show Goes _ _ _ _ T (mkF me_ 203 #[.val (.int p0), .val (.int p1), .val (.int p2), .val (.int p3), .val (.int p4), .val (.int p5), .val (.int c0), .val (.int c1), .val (.int c2), .val (.int c3), .val (.ref b7), .val (.ref b8), .val (.int (bi (c0 = (0 : Int32) ∧ c1 = (-92 : Int32) ∧ c2 = (4 : Int32) ∧ c3 = (0 : Int32)))), .val (.int (((((c0 &&& (255 : Int32)) <<< ((24 : Int32) &&& 31)) ||| ((c1 &&& (255 : Int32)) <<< ((16 : Int32) &&& 31))) ||| ((c2 &&& (255 : Int32)) <<< ((8 : Int32) &&& 31))) ||| (c3 &&& (255 : Int32)))), .unset] [])
              refine Goes.go (fun _ => XS.iconst S.here B.x rfl (B.d at_203)) ?_
              show Goes _ _ _ _ T (mkF me_ 204 #[.val (.int p0), .val (.int p1), .val (.int p2), .val (.int p3), .val (.int p4), .val (.int p5), .val (.int c0), .val (.int c1), .val (.int c2), .val (.int c3), .val (.ref b7), .val (.ref b8), .val (.int (bi (c0 = (0 : Int32) ∧ c1 = (-92 : Int32) ∧ c2 = (4 : Int32) ∧ c3 = (0 : Int32)))), .val (.int (((((c0 &&& (255 : Int32)) <<< ((24 : Int32) &&& 31)) ||| ((c1 &&& (255 : Int32)) <<< ((16 : Int32) &&& 31))) ||| ((c2 &&& (255 : Int32)) <<< ((8 : Int32) &&& 31))) ||| (c3 &&& (255 : Int32)))), .unset] [(.int (1 : Int32))])
              refine Goes.go (fun _ => XS.goto S.here B.x rfl (pc0 := 204) (pc' := 208) rfl (B.d at_204) (by decide) (by decide)) ?_
              show Goes _ _ _ _ T (mkF me_ 208 #[.val (.int p0), .val (.int p1), .val (.int p2), .val (.int p3), .val (.int p4), .val (.int p5), .val (.int c0), .val (.int c1), .val (.int c2), .val (.int c3), .val (.ref b7), .val (.ref b8), .val (.int (bi (c0 = (0 : Int32) ∧ c1 = (-92 : Int32) ∧ c2 = (4 : Int32) ∧ c3 = (0 : Int32)))), .val (.int (((((c0 &&& (255 : Int32)) <<< ((24 : Int32) &&& 31)) ||| ((c1 &&& (255 : Int32)) <<< ((16 : Int32) &&& 31))) ||| ((c2 &&& (255 : Int32)) <<< ((8 : Int32) &&& 31))) ||| (c3 &&& (255 : Int32)))), .unset] [(.int (1 : Int32))])
              exact kk
            · skip
              refine Goes.go (fun _ => XS.icmpYes S.here B.x rfl (pc0 := 200) (pc' := 207) rfl (B.d at_200) rfl (feq hc200).2 (by decide) (by decide)) ?_
              show Goes _ _ _ _ T (mkF me_ 207 #[.val (.int p0), .val (.int p1), .val (.int p2), .val (.int p3), .val (.int p4), .val (.int p5), .val (.int c0), .val (.int c1), .val (.int c2), .val (.int c3), .val (.ref b7), .val (.ref b8), .val (.int (bi (c0 = (0 : Int32) ∧ c1 = (-92 : Int32) ∧ c2 = (4 : Int32) ∧ c3 = (0 : Int32)))), .val (.int (((((c0 &&& (255 : Int32)) <<< ((24 : Int32) &&& 31)) ||| ((c1 &&& (255 : Int32)) <<< ((16 : Int32) &&& 31))) ||| ((c2 &&& (255 : Int32)) <<< ((8 : Int32) &&& 31))) ||| (c3 &&& (255 : Int32)))), .unset] [])
              refine Goes.go (fun _ => XS.iconst S.here B.x rfl (B.d at_207)) ?_
              show Goes _ _ _ _ T (mkF me_ 208 #[.val (.int p0), .val (.int p1), .val (.int p2), .val (.int p3), .val (.int p4), .val (.int p5), .val (.int c0), .val (.int c1), .val (.int c2), .val (.int c3), .val (.ref b7), .val (.ref b8), .val (.int (bi (c0 = (0 : Int32) ∧ c1 = (-92 : Int32) ∧ c2 = (4 : Int32) ∧ c3 = (0 : Int32)))), .val (.int (((((c0 &&& (255 : Int32)) <<< ((24 : Int32) &&& 31)) ||| ((c1 &&& (255 : Int32)) <<< ((16 : Int32) &&& 31))) ||| ((c2 &&& (255 : Int32)) <<< ((8 : Int32) &&& 31))) ||| (c3 &&& (255 : Int32)))), .unset] [(.int (0 : Int32))])
              exact kk
            show Goes _ _ _ _ T (mkF me_ 208 #[.val (.int p0), .val (.int p1), .val (.int p2), .val (.int p3), .val (.int p4), .val (.int p5), .val (.int c0), .val (.int c1), .val (.int c2), .val (.int c3), .val (.ref b7), .val (.ref b8), .val (.int (bi (c0 = (0 : Int32) ∧ c1 = (-92 : Int32) ∧ c2 = (4 : Int32) ∧ c3 = (0 : Int32)))), .val (.int (((((c0 &&& (255 : Int32)) <<< ((24 : Int32) &&& 31)) ||| ((c1 &&& (255 : Int32)) <<< ((16 : Int32) &&& 31))) ||| ((c2 &&& (255 : Int32)) <<< ((8 : Int32) &&& 31))) ||| (c3 &&& (255 : Int32)))), .unset] [(.int (bi ((((((c0 &&& (255 : Int32)) <<< ((24 : Int32) &&& 31)) ||| ((c1 &&& (255 : Int32)) <<< ((16 : Int32) &&& 31))) ||| ((c2 &&& (255 : Int32)) <<< ((8 : Int32) &&& 31))) ||| (c3 &&& (255 : Int32))) = (10748928 : Int32))))])
            refine Goes.go (fun _ => XS.istore S.here B.x rfl (B.d at_208) rfl (l' := #[.val (.int p0), .val (.int p1), .val (.int p2), .val (.int p3), .val (.int p4), .val (.int p5), .val (.int c0), .val (.int c1), .val (.int c2), .val (.int c3), .val (.ref b7), .val (.ref b8), .val (.int (bi (c0 = (0 : Int32) ∧ c1 = (-92 : Int32) ∧ c2 = (4 : Int32) ∧ c3 = (0 : Int32)))), .val (.int (((((c0 &&& (255 : Int32)) <<< ((24 : Int32) &&& 31)) ||| ((c1 &&& (255 : Int32)) <<< ((16 : Int32) &&& 31))) ||| ((c2 &&& (255 : Int32)) <<< ((8 : Int32) &&& 31))) ||| (c3 &&& (255 : Int32)))), .val (.int (bi ((((((c0 &&& (255 : Int32)) <<< ((24 : Int32) &&& 31)) ||| ((c1 &&& (255 : Int32)) <<< ((16 : Int32) &&& 31))) ||| ((c2 &&& (255 : Int32)) <<< ((8 : Int32) &&& 31))) ||| (c3 &&& (255 : Int32))) = (10748928 : Int32))))]) rfl) ?_
            show Goes _ _ _ _ T (mkF me_ 210 #[.val (.int p0), .val (.int p1), .val (.int p2), .val (.int p3), .val (.int p4), .val (.int p5), .val (.int c0), .val (.int c1), .val (.int c2), .val (.int c3), .val (.ref b7), .val (.ref b8), .val (.int (bi (c0 = (0 : Int32) ∧ c1 = (-92 : Int32) ∧ c2 = (4 : Int32) ∧ c3 = (0 : Int32)))), .val (.int (((((c0 &&& (255 : Int32)) <<< ((24 : Int32) &&& 31)) ||| ((c1 &&& (255 : Int32)) <<< ((16 : Int32) &&& 31))) ||| ((c2 &&& (255 : Int32)) <<< ((8 : Int32) &&& 31))) ||| (c3 &&& (255 : Int32)))), .val (.int (bi ((((((c0 &&& (255 : Int32)) <<< ((24 : Int32) &&& 31)) ||| ((c1 &&& (255 : Int32)) <<< ((16 : Int32) &&& 31))) ||| ((c2 &&& (255 : Int32)) <<< ((8 : Int32) &&& 31))) ||| (c3 &&& (255 : Int32))) = (10748928 : Int32))))] [])
            refine Goes.go (fun _ => XS.iload S.here B.x rfl (B.d at_210) rfl) ?_
            show Goes _ _ _ _ T (mkF me_ 212 #[.val (.int p0), .val (.int p1), .val (.int p2), .val (.int p3), .val (.int p4), .val (.int p5), .val (.int c0), .val (.int c1), .val (.int c2), .val (.int c3), .val (.ref b7), .val (.ref b8), .val (.int (bi (c0 = (0 : Int32) ∧ c1 = (-92 : Int32) ∧ c2 = (4 : Int32) ∧ c3 = (0 : Int32)))), .val (.int (((((c0 &&& (255 : Int32)) <<< ((24 : Int32) &&& 31)) ||| ((c1 &&& (255 : Int32)) <<< ((16 : Int32) &&& 31))) ||| ((c2 &&& (255 : Int32)) <<< ((8 : Int32) &&& 31))) ||| (c3 &&& (255 : Int32)))), .val (.int (bi ((((((c0 &&& (255 : Int32)) <<< ((24 : Int32) &&& 31)) ||| ((c1 &&& (255 : Int32)) <<< ((16 : Int32) &&& 31))) ||| ((c2 &&& (255 : Int32)) <<< ((8 : Int32) &&& 31))) ||| (c3 &&& (255 : Int32))) = (10748928 : Int32))))] [(.int (bi (c0 = (0 : Int32) ∧ c1 = (-92 : Int32) ∧ c2 = (4 : Int32) ∧ c3 = (0 : Int32))))])
            refine Goes.go (fun _ => XS.iload S.here B.x rfl (B.d at_212) rfl) ?_
            show Goes _ _ _ _ T (mkF me_ 214 #[.val (.int p0), .val (.int p1), .val (.int p2), .val (.int p3), .val (.int p4), .val (.int p5), .val (.int c0), .val (.int c1), .val (.int c2), .val (.int c3), .val (.ref b7), .val (.ref b8), .val (.int (bi (c0 = (0 : Int32) ∧ c1 = (-92 : Int32) ∧ c2 = (4 : Int32) ∧ c3 = (0 : Int32)))), .val (.int (((((c0 &&& (255 : Int32)) <<< ((24 : Int32) &&& 31)) ||| ((c1 &&& (255 : Int32)) <<< ((16 : Int32) &&& 31))) ||| ((c2 &&& (255 : Int32)) <<< ((8 : Int32) &&& 31))) ||| (c3 &&& (255 : Int32)))), .val (.int (bi ((((((c0 &&& (255 : Int32)) <<< ((24 : Int32) &&& 31)) ||| ((c1 &&& (255 : Int32)) <<< ((16 : Int32) &&& 31))) ||| ((c2 &&& (255 : Int32)) <<< ((8 : Int32) &&& 31))) ||| (c3 &&& (255 : Int32))) = (10748928 : Int32))))] [(.int (bi ((((((c0 &&& (255 : Int32)) <<< ((24 : Int32) &&& 31)) ||| ((c1 &&& (255 : Int32)) <<< ((16 : Int32) &&& 31))) ||| ((c2 &&& (255 : Int32)) <<< ((8 : Int32) &&& 31))) ||| (c3 &&& (255 : Int32))) = (10748928 : Int32)))), (.int (bi (c0 = (0 : Int32) ∧ c1 = (-92 : Int32) ∧ c2 = (4 : Int32) ∧ c3 = (0 : Int32))))])
            refine Goes.go (fun _ => XS.icmpNo S.here B.x rfl (B.d at_214) rfl (teq (show (bi (c0 = (0 : Int32) ∧ c1 = (-92 : Int32) ∧ c2 = (4 : Int32) ∧ c3 = (0 : Int32))) = (bi ((((((c0 &&& (255 : Int32)) <<< ((24 : Int32) &&& 31)) ||| ((c1 &&& (255 : Int32)) <<< ((16 : Int32) &&& 31))) ||| ((c2 &&& (255 : Int32)) <<< ((8 : Int32) &&& 31))) ||| (c3 &&& (255 : Int32))) = (10748928 : Int32))) from bi_congr (own_sel c0 c1 c2 c3 hbc0 hbc1 hbc2 hbc3))).2) ?_
            show Goes _ _ _ _ T (mkF me_ 217 #[.val (.int p0), .val (.int p1), .val (.int p2), .val (.int p3), .val (.int p4), .val (.int p5), .val (.int c0), .val (.int c1), .val (.int c2), .val (.int c3), .val (.ref b7), .val (.ref b8), .val (.int (bi (c0 = (0 : Int32) ∧ c1 = (-92 : Int32) ∧ c2 = (4 : Int32) ∧ c3 = (0 : Int32)))), .val (.int (((((c0 &&& (255 : Int32)) <<< ((24 : Int32) &&& 31)) ||| ((c1 &&& (255 : Int32)) <<< ((16 : Int32) &&& 31))) ||| ((c2 &&& (255 : Int32)) <<< ((8 : Int32) &&& 31))) ||| (c3 &&& (255 : Int32)))), .val (.int (bi ((((((c0 &&& (255 : Int32)) <<< ((24 : Int32) &&& 31)) ||| ((c1 &&& (255 : Int32)) <<< ((16 : Int32) &&& 31))) ||| ((c2 &&& (255 : Int32)) <<< ((8 : Int32) &&& 31))) ||| (c3 &&& (255 : Int32))) = (10748928 : Int32))))] [])
            refine Goes.go (fun _ => XS.iconst S.here B.x rfl (B.d at_217)) ?_
            show Goes _ _ _ _ T (mkF me_ 218 #[.val (.int p0), .val (.int p1), .val (.int p2), .val (.int p3), .val (.int p4), .val (.int p5), .val (.int c0), .val (.int c1), .val (.int c2), .val (.int c3), .val (.ref b7), .val (.ref b8), .val (.int (bi (c0 = (0 : Int32) ∧ c1 = (-92 : Int32) ∧ c2 = (4 : Int32) ∧ c3 = (0 : Int32)))), .val (.int (((((c0 &&& (255 : Int32)) <<< ((24 : Int32) &&& 31)) ||| ((c1 &&& (255 : Int32)) <<< ((16 : Int32) &&& 31))) ||| ((c2 &&& (255 : Int32)) <<< ((8 : Int32) &&& 31))) ||| (c3 &&& (255 : Int32)))), .val (.int (bi ((((((c0 &&& (255 : Int32)) <<< ((24 : Int32) &&& 31)) ||| ((c1 &&& (255 : Int32)) <<< ((16 : Int32) &&& 31))) ||| ((c2 &&& (255 : Int32)) <<< ((8 : Int32) &&& 31))) ||| (c3 &&& (255 : Int32))) = (10748928 : Int32))))] [(.int (1 : Int32))])
            refine Goes.go (fun _ => XS.goto S.here B.x rfl (pc0 := 218) (pc' := 222) rfl (B.d at_218) (by decide) (by decide)) ?_
            show Goes _ _ _ _ T (mkF me_ 222 #[.val (.int p0), .val (.int p1), .val (.int p2), .val (.int p3), .val (.int p4), .val (.int p5), .val (.int c0), .val (.int c1), .val (.int c2), .val (.int c3), .val (.ref b7), .val (.ref b8), .val (.int (bi (c0 = (0 : Int32) ∧ c1 = (-92 : Int32) ∧ c2 = (4 : Int32) ∧ c3 = (0 : Int32)))), .val (.int (((((c0 &&& (255 : Int32)) <<< ((24 : Int32) &&& 31)) ||| ((c1 &&& (255 : Int32)) <<< ((16 : Int32) &&& 31))) ||| ((c2 &&& (255 : Int32)) <<< ((8 : Int32) &&& 31))) ||| (c3 &&& (255 : Int32)))), .val (.int (bi ((((((c0 &&& (255 : Int32)) <<< ((24 : Int32) &&& 31)) ||| ((c1 &&& (255 : Int32)) <<< ((16 : Int32) &&& 31))) ||| ((c2 &&& (255 : Int32)) <<< ((8 : Int32) &&& 31))) ||| (c3 &&& (255 : Int32))) = (10748928 : Int32))))] [(.int (1 : Int32))])
            refine Goes.retN S B (by simp) at_222 (by decide) (by decide) ?_
            exact rfl
        refine Goes.go (fun _ => XS.iload S.here B.x rfl (B.d at_46) rfl) ?_
        show Goes _ _ _ _ T (mkF me_ 48 #[.val (.int p0), .val (.int p1), .val (.int p2), .val (.int p3), .val (.int p4), .val (.int p5), .val (.int c0), .val (.int c1), .val (.int c2), .unset, .unset, .unset, .unset, .unset, .unset] [(.int p5)])
        refine Goes.go (fun _ => XS.bipush S.here B.x rfl (B.d at_48)) ?_
        show Goes _ _ _ _ T (mkF me_ 50 #[.val (.int p0), .val (.int p1), .val (.int p2), .val (.int p3), .val (.int p4), .val (.int p5), .val (.int c0), .val (.int c1), .val (.int c2), .unset, .unset, .unset, .unset, .unset, .unset] [(.int (8 : Int32)), (.int p5)])
        refine Goes.go (fun _ => XS.iand S.here B.x rfl (B.d at_50) rfl) ?_
        show Goes _ _ _ _ T (mkF me_ 51 #[.val (.int p0), .val (.int p1), .val (.int p2), .val (.int p3), .val (.int p4), .val (.int p5), .val (.int c0), .val (.int c1), .val (.int c2), .unset, .unset, .unset, .unset, .unset, .unset] [(.int (p5 &&& (8 : Int32)))])
        by_cases hc51 : (p5 &&& (8 : Int32)) = (0 : Int32)
        · skip
          refine Goes.go (fun _ => XS.ifYes S.here B.x rfl (pc0 := 51) (pc' := 58) rfl (B.d at_51) rfl ((if0 _ _).trans (teq hc51).1) (by decide) (by decide)) ?_
          show Goes _ _ _ _ T (mkF me_ 58 #[.val (.int p0), .val (.int p1), .val (.int p2), .val (.int p3), .val (.int p4), .val (.int p5), .val (.int c0), .val (.int c1), .val (.int c2), .unset, .unset, .unset, .unset, .unset, .unset] [])
          refine Goes.go (fun _ => XS.iloadN S.here B.x rfl (B.d at_58) rfl) ?_
          show Goes _ _ _ _ T (mkF me_ 59 #[.val (.int p0), .val (.int p1), .val (.int p2), .val (.int p3), .val (.int p4), .val (.int p5), .val (.int c0), .val (.int c1), .val (.int c2), .unset, .unset, .unset, .unset, .unset, .unset] [(.int p3)])
          refine Goes.go (fun _ => XS.i2b S.here B.x rfl (B.d at_59) rfl) ?_
          show Goes _ _ _ _ T (mkF me_ 60 #[.val (.int p0), .val (.int p1), .val (.int p2), .val (.int p3), .val (.int p4), .val (.int p5), .val (.int c0), .val (.int c1), .val (.int c2), .unset, .unset, .unset, .unset, .unset, .unset] [(.int p3.toInt8.toInt32)])
          refine Goes.go (fun _ => XS.istore S.here B.x rfl (B.d at_60) rfl (l' := #[.val (.int p0), .val (.int p1), .val (.int p2), .val (.int p3), .val (.int p4), .val (.int p5), .val (.int c0), .val (.int c1), .val (.int c2), .val (.int p3.toInt8.toInt32), .unset, .unset, .unset, .unset, .unset]) rfl) ?_
          show Goes _ _ _ _ T (mkF me_ 62 #[.val (.int p0), .val (.int p1), .val (.int p2), .val (.int p3), .val (.int p4), .val (.int p5), .val (.int c0), .val (.int c1), .val (.int c2), .val (.int p3.toInt8.toInt32), .unset, .unset, .unset, .unset, .unset] [])
          exact J4 T p3.toInt8.toInt32 S (own_nb _)
        · skip
          refine Goes.go (fun _ => XS.ifNo S.here B.x rfl (B.d at_51) rfl ((if0 _ _).trans (feq hc51).1)) ?_
          show Goes _ _ _ _ T (mkF me_ 54 #[.val (.int p0), .val (.int p1), .val (.int p2), .val (.int p3), .val (.int p4), .val (.int p5), .val (.int c0), .val (.int c1), .val (.int c2), .unset, .unset, .unset, .unset, .unset, .unset] [])
          refine Goes.go (fun _ => XS.iconst S.here B.x rfl (B.d at_54)) ?_
          show Goes _ _ _ _ T (mkF me_ 55 #[.val (.int p0), .val (.int p1), .val (.int p2), .val (.int p3), .val (.int p4), .val (.int p5), .val (.int c0), .val (.int c1), .val (.int c2), .unset, .unset, .unset, .unset, .unset, .unset] [(.int (0 : Int32))])
          refine Goes.go (fun _ => XS.goto S.here B.x rfl (pc0 := 55) (pc' := 60) rfl (B.d at_55) (by decide) (by decide)) ?_
          show Goes _ _ _ _ T (mkF me_ 60 #[.val (.int p0), .val (.int p1), .val (.int p2), .val (.int p3), .val (.int p4), .val (.int p5), .val (.int c0), .val (.int c1), .val (.int c2), .unset, .unset, .unset, .unset, .unset, .unset] [(.int (0 : Int32))])
          refine Goes.go (fun _ => XS.istore S.here B.x rfl (B.d at_60) rfl (l' := #[.val (.int p0), .val (.int p1), .val (.int p2), .val (.int p3), .val (.int p4), .val (.int p5), .val (.int c0), .val (.int c1), .val (.int c2), .val (.int (0 : Int32)), .unset, .unset, .unset, .unset, .unset]) rfl) ?_
          show Goes _ _ _ _ T (mkF me_ 62 #[.val (.int p0), .val (.int p1), .val (.int p2), .val (.int p3), .val (.int p4), .val (.int p5), .val (.int c0), .val (.int c1), .val (.int c2), .val (.int (0 : Int32)), .unset, .unset, .unset, .unset, .unset] [])
          exact J4 T (0 : Int32) S (by decide)
      refine Goes.go (fun _ => XS.iload S.here B.x rfl (B.d at_31) rfl) ?_
      show Goes _ _ _ _ T (mkF me_ 33 #[.val (.int p0), .val (.int p1), .val (.int p2), .val (.int p3), .val (.int p4), .val (.int p5), .val (.int c0), .val (.int c1), .unset, .unset, .unset, .unset, .unset, .unset, .unset] [(.int p5)])
      refine Goes.go (fun _ => XS.iconst S.here B.x rfl (B.d at_33)) ?_
      show Goes _ _ _ _ T (mkF me_ 34 #[.val (.int p0), .val (.int p1), .val (.int p2), .val (.int p3), .val (.int p4), .val (.int p5), .val (.int c0), .val (.int c1), .unset, .unset, .unset, .unset, .unset, .unset, .unset] [(.int (4 : Int32)), (.int p5)])
      refine Goes.go (fun _ => XS.iand S.here B.x rfl (B.d at_34) rfl) ?_
      show Goes _ _ _ _ T (mkF me_ 35 #[.val (.int p0), .val (.int p1), .val (.int p2), .val (.int p3), .val (.int p4), .val (.int p5), .val (.int c0), .val (.int c1), .unset, .unset, .unset, .unset, .unset, .unset, .unset] [(.int (p5 &&& (4 : Int32)))])
      by_cases hc35 : (p5 &&& (4 : Int32)) = (0 : Int32)
      · skip
        refine Goes.go (fun _ => XS.ifYes S.here B.x rfl (pc0 := 35) (pc' := 42) rfl (B.d at_35) rfl ((if0 _ _).trans (teq hc35).1) (by decide) (by decide)) ?_
        show Goes _ _ _ _ T (mkF me_ 42 #[.val (.int p0), .val (.int p1), .val (.int p2), .val (.int p3), .val (.int p4), .val (.int p5), .val (.int c0), .val (.int c1), .unset, .unset, .unset, .unset, .unset, .unset, .unset] [])
        refine Goes.go (fun _ => XS.iloadN S.here B.x rfl (B.d at_42) rfl) ?_
        show Goes _ _ _ _ T (mkF me_ 43 #[.val (.int p0), .val (.int p1), .val (.int p2), .val (.int p3), .val (.int p4), .val (.int p5), .val (.int c0), .val (.int c1), .unset, .unset, .unset, .unset, .unset, .unset, .unset] [(.int p2)])
        refine Goes.go (fun _ => XS.i2b S.here B.x rfl (B.d at_43) rfl) ?_
        show Goes _ _ _ _ T (mkF me_ 44 #[.val (.int p0), .val (.int p1), .val (.int p2), .val (.int p3), .val (.int p4), .val (.int p5), .val (.int c0), .val (.int c1), .unset, .unset, .unset, .unset, .unset, .unset, .unset] [(.int p2.toInt8.toInt32)])
        refine Goes.go (fun _ => XS.istore S.here B.x rfl (B.d at_44) rfl (l' := #[.val (.int p0), .val (.int p1), .val (.int p2), .val (.int p3), .val (.int p4), .val (.int p5), .val (.int c0), .val (.int c1), .val (.int p2.toInt8.toInt32), .unset, .unset, .unset, .unset, .unset, .unset]) rfl) ?_
        show Goes _ _ _ _ T (mkF me_ 46 #[.val (.int p0), .val (.int p1), .val (.int p2), .val (.int p3), .val (.int p4), .val (.int p5), .val (.int c0), .val (.int c1), .val (.int p2.toInt8.toInt32), .unset, .unset, .unset, .unset, .unset, .unset] [])
        exact J3 T p2.toInt8.toInt32 S (own_nb _)
      · skip
        refine Goes.go (fun _ => XS.ifNo S.here B.x rfl (B.d at_35) rfl ((if0 _ _).trans (feq hc35).1)) ?_
        show Goes _ _ _ _ T (mkF me_ 38 #[.val (.int p0), .val (.int p1), .val (.int p2), .val (.int p3), .val (.int p4), .val (.int p5), .val (.int c0), .val (.int c1), .unset, .unset, .unset, .unset, .unset, .unset, .unset] [])
        refine Goes.go (fun _ => XS.iconst S.here B.x rfl (B.d at_38)) ?_
        show Goes _ _ _ _ T (mkF me_ 39 #[.val (.int p0), .val (.int p1), .val (.int p2), .val (.int p3), .val (.int p4), .val (.int p5), .val (.int c0), .val (.int c1), .unset, .unset, .unset, .unset, .unset, .unset, .unset] [(.int (4 : Int32))])
        refine Goes.go (fun _ => XS.goto S.here B.x rfl (pc0 := 39) (pc' := 44) rfl (B.d at_39) (by decide) (by decide)) ?_
        show Goes _ _ _ _ T (mkF me_ 44 #[.val (.int p0), .val (.int p1), .val (.int p2), .val (.int p3), .val (.int p4), .val (.int p5), .val (.int c0), .val (.int c1), .unset, .unset, .unset, .unset, .unset, .unset, .unset] [(.int (4 : Int32))])
        refine Goes.go (fun _ => XS.istore S.here B.x rfl (B.d at_44) rfl (l' := #[.val (.int p0), .val (.int p1), .val (.int p2), .val (.int p3), .val (.int p4), .val (.int p5), .val (.int c0), .val (.int c1), .val (.int (4 : Int32)), .unset, .unset, .unset, .unset, .unset, .unset]) rfl) ?_
        show Goes _ _ _ _ T (mkF me_ 46 #[.val (.int p0), .val (.int p1), .val (.int p2), .val (.int p3), .val (.int p4), .val (.int p5), .val (.int c0), .val (.int c1), .val (.int (4 : Int32)), .unset, .unset, .unset, .unset, .unset, .unset] [])
        exact J3 T (4 : Int32) S (by decide)
    refine Goes.go (fun _ => XS.iload S.here B.x rfl (B.d at_15) rfl) ?_
    show Goes _ _ _ _ T (mkF me_ 17 #[.val (.int p0), .val (.int p1), .val (.int p2), .val (.int p3), .val (.int p4), .val (.int p5), .val (.int c0), .unset, .unset, .unset, .unset, .unset, .unset, .unset, .unset] [(.int p5)])
    refine Goes.go (fun _ => XS.iconst S.here B.x rfl (B.d at_17)) ?_
    show Goes _ _ _ _ T (mkF me_ 18 #[.val (.int p0), .val (.int p1), .val (.int p2), .val (.int p3), .val (.int p4), .val (.int p5), .val (.int c0), .unset, .unset, .unset, .unset, .unset, .unset, .unset, .unset] [(.int (2 : Int32)), (.int p5)])
    refine Goes.go (fun _ => XS.iand S.here B.x rfl (B.d at_18) rfl) ?_
    show Goes _ _ _ _ T (mkF me_ 19 #[.val (.int p0), .val (.int p1), .val (.int p2), .val (.int p3), .val (.int p4), .val (.int p5), .val (.int c0), .unset, .unset, .unset, .unset, .unset, .unset, .unset, .unset] [(.int (p5 &&& (2 : Int32)))])
    by_cases hc19 : (p5 &&& (2 : Int32)) = (0 : Int32)
    · skip
      refine Goes.go (fun _ => XS.ifYes S.here B.x rfl (pc0 := 19) (pc' := 27) rfl (B.d at_19) rfl ((if0 _ _).trans (teq hc19).1) (by decide) (by decide)) ?_
      show Goes _ _ _ _ T (mkF me_ 27 #[.val (.int p0), .val (.int p1), .val (.int p2), .val (.int p3), .val (.int p4), .val (.int p5), .val (.int c0), .unset, .unset, .unset, .unset, .unset, .unset, .unset, .unset] [])
      refine Goes.go (fun _ => XS.iloadN S.here B.x rfl (B.d at_27) rfl) ?_
      show Goes _ _ _ _ T (mkF me_ 28 #[.val (.int p0), .val (.int p1), .val (.int p2), .val (.int p3), .val (.int p4), .val (.int p5), .val (.int c0), .unset, .unset, .unset, .unset, .unset, .unset, .unset, .unset] [(.int p1)])
      refine Goes.go (fun _ => XS.i2b S.here B.x rfl (B.d at_28) rfl) ?_
      show Goes _ _ _ _ T (mkF me_ 29 #[.val (.int p0), .val (.int p1), .val (.int p2), .val (.int p3), .val (.int p4), .val (.int p5), .val (.int c0), .unset, .unset, .unset, .unset, .unset, .unset, .unset, .unset] [(.int p1.toInt8.toInt32)])
      refine Goes.go (fun _ => XS.istore S.here B.x rfl (B.d at_29) rfl (l' := #[.val (.int p0), .val (.int p1), .val (.int p2), .val (.int p3), .val (.int p4), .val (.int p5), .val (.int c0), .val (.int p1.toInt8.toInt32), .unset, .unset, .unset, .unset, .unset, .unset, .unset]) rfl) ?_
      show Goes _ _ _ _ T (mkF me_ 31 #[.val (.int p0), .val (.int p1), .val (.int p2), .val (.int p3), .val (.int p4), .val (.int p5), .val (.int c0), .val (.int p1.toInt8.toInt32), .unset, .unset, .unset, .unset, .unset, .unset, .unset] [])
      exact J2 T p1.toInt8.toInt32 S (own_nb _)
    · skip
      refine Goes.go (fun _ => XS.ifNo S.here B.x rfl (B.d at_19) rfl ((if0 _ _).trans (feq hc19).1)) ?_
      show Goes _ _ _ _ T (mkF me_ 22 #[.val (.int p0), .val (.int p1), .val (.int p2), .val (.int p3), .val (.int p4), .val (.int p5), .val (.int c0), .unset, .unset, .unset, .unset, .unset, .unset, .unset, .unset] [])
      refine Goes.go (fun _ => XS.bipush S.here B.x rfl (B.d at_22)) ?_
      show Goes _ _ _ _ T (mkF me_ 24 #[.val (.int p0), .val (.int p1), .val (.int p2), .val (.int p3), .val (.int p4), .val (.int p5), .val (.int c0), .unset, .unset, .unset, .unset, .unset, .unset, .unset, .unset] [(.int (-92 : Int32))])
      refine Goes.go (fun _ => XS.goto S.here B.x rfl (pc0 := 24) (pc' := 29) rfl (B.d at_24) (by decide) (by decide)) ?_
      show Goes _ _ _ _ T (mkF me_ 29 #[.val (.int p0), .val (.int p1), .val (.int p2), .val (.int p3), .val (.int p4), .val (.int p5), .val (.int c0), .unset, .unset, .unset, .unset, .unset, .unset, .unset, .unset] [(.int (-92 : Int32))])
      refine Goes.go (fun _ => XS.istore S.here B.x rfl (B.d at_29) rfl (l' := #[.val (.int p0), .val (.int p1), .val (.int p2), .val (.int p3), .val (.int p4), .val (.int p5), .val (.int c0), .val (.int (-92 : Int32)), .unset, .unset, .unset, .unset, .unset, .unset, .unset]) rfl) ?_
      show Goes _ _ _ _ T (mkF me_ 31 #[.val (.int p0), .val (.int p1), .val (.int p2), .val (.int p3), .val (.int p4), .val (.int p5), .val (.int c0), .val (.int (-92 : Int32)), .unset, .unset, .unset, .unset, .unset, .unset, .unset] [])
      exact J2 T (-92 : Int32) S (by decide)
  refine Goes.go (fun _ => XS.iload S.here B.x rfl (B.d at_0) rfl) ?_
  show Goes _ _ _ _ T (mkF me_ 2 #[.val (.int p0), .val (.int p1), .val (.int p2), .val (.int p3), .val (.int p4), .val (.int p5), .unset, .unset, .unset, .unset, .unset, .unset, .unset, .unset, .unset] [(.int p5)])
  refine Goes.go (fun _ => XS.iconst S.here B.x rfl (B.d at_2)) ?_
  show Goes _ _ _ _ T (mkF me_ 3 #[.val (.int p0), .val (.int p1), .val (.int p2), .val (.int p3), .val (.int p4), .val (.int p5), .unset, .unset, .unset, .unset, .unset, .unset, .unset, .unset, .unset] [(.int (1 : Int32)), (.int p5)])
  refine Goes.go (fun _ => XS.iand S.here B.x rfl (B.d at_3) rfl) ?_
  show Goes _ _ _ _ T (mkF me_ 4 #[.val (.int p0), .val (.int p1), .val (.int p2), .val (.int p3), .val (.int p4), .val (.int p5), .unset, .unset, .unset, .unset, .unset, .unset, .unset, .unset, .unset] [(.int (p5 &&& (1 : Int32)))])
  by_cases hc4 : (p5 &&& (1 : Int32)) = (0 : Int32)
  · skip
    refine Goes.go (fun _ => XS.ifYes S.here B.x rfl (pc0 := 4) (pc' := 11) rfl (B.d at_4) rfl ((if0 _ _).trans (teq hc4).1) (by decide) (by decide)) ?_
    show Goes _ _ _ _ T (mkF me_ 11 #[.val (.int p0), .val (.int p1), .val (.int p2), .val (.int p3), .val (.int p4), .val (.int p5), .unset, .unset, .unset, .unset, .unset, .unset, .unset, .unset, .unset] [])
    refine Goes.go (fun _ => XS.iloadN S.here B.x rfl (B.d at_11) rfl) ?_
    show Goes _ _ _ _ T (mkF me_ 12 #[.val (.int p0), .val (.int p1), .val (.int p2), .val (.int p3), .val (.int p4), .val (.int p5), .unset, .unset, .unset, .unset, .unset, .unset, .unset, .unset, .unset] [(.int p0)])
    refine Goes.go (fun _ => XS.i2b S.here B.x rfl (B.d at_12) rfl) ?_
    show Goes _ _ _ _ T (mkF me_ 13 #[.val (.int p0), .val (.int p1), .val (.int p2), .val (.int p3), .val (.int p4), .val (.int p5), .unset, .unset, .unset, .unset, .unset, .unset, .unset, .unset, .unset] [(.int p0.toInt8.toInt32)])
    refine Goes.go (fun _ => XS.istore S.here B.x rfl (B.d at_13) rfl (l' := #[.val (.int p0), .val (.int p1), .val (.int p2), .val (.int p3), .val (.int p4), .val (.int p5), .val (.int p0.toInt8.toInt32), .unset, .unset, .unset, .unset, .unset, .unset, .unset, .unset]) rfl) ?_
    show Goes _ _ _ _ T (mkF me_ 15 #[.val (.int p0), .val (.int p1), .val (.int p2), .val (.int p3), .val (.int p4), .val (.int p5), .val (.int p0.toInt8.toInt32), .unset, .unset, .unset, .unset, .unset, .unset, .unset, .unset] [])
    exact J1 T p0.toInt8.toInt32 S (own_nb _)
  · skip
    refine Goes.go (fun _ => XS.ifNo S.here B.x rfl (B.d at_4) rfl ((if0 _ _).trans (feq hc4).1)) ?_
    show Goes _ _ _ _ T (mkF me_ 7 #[.val (.int p0), .val (.int p1), .val (.int p2), .val (.int p3), .val (.int p4), .val (.int p5), .unset, .unset, .unset, .unset, .unset, .unset, .unset, .unset, .unset] [])
    refine Goes.go (fun _ => XS.iconst S.here B.x rfl (B.d at_7)) ?_
    show Goes _ _ _ _ T (mkF me_ 8 #[.val (.int p0), .val (.int p1), .val (.int p2), .val (.int p3), .val (.int p4), .val (.int p5), .unset, .unset, .unset, .unset, .unset, .unset, .unset, .unset, .unset] [(.int (0 : Int32))])
    refine Goes.go (fun _ => XS.goto S.here B.x rfl (pc0 := 8) (pc' := 13) rfl (B.d at_8) (by decide) (by decide)) ?_
    show Goes _ _ _ _ T (mkF me_ 13 #[.val (.int p0), .val (.int p1), .val (.int p2), .val (.int p3), .val (.int p4), .val (.int p5), .unset, .unset, .unset, .unset, .unset, .unset, .unset, .unset, .unset] [(.int (0 : Int32))])
    refine Goes.go (fun _ => XS.istore S.here B.x rfl (B.d at_13) rfl (l' := #[.val (.int p0), .val (.int p1), .val (.int p2), .val (.int p3), .val (.int p4), .val (.int p5), .val (.int (0 : Int32)), .unset, .unset, .unset, .unset, .unset, .unset, .unset, .unset]) rfl) ?_
    show Goes _ _ _ _ T (mkF me_ 15 #[.val (.int p0), .val (.int p1), .val (.int p2), .val (.int p3), .val (.int p4), .val (.int p5), .val (.int (0 : Int32)), .unset, .unset, .unset, .unset, .unset, .unset, .unset, .unset] [])
    exact J1 T (0 : Int32) S (by decide)
set_option maxRecDepth 65536 in
set_option maxHeartbeats 40000000 in
theorem comes_1 {Post : Tables → Env → Array Value → State → Outcome → State → Prop} (hpost : ∀ tb e args s v u, (limb_1_1.after args s (.returned v) u = true ∧ limb_1_2.after args s (.returned v) u = true ∧ True) → FrameEnd s (.returned v) u (Jvm.fieldLocs frame_1_writes args s ++ Jvm.arrayLocs frame_1_arrays args s ++ Jvm.staticLocs frame_1_statics s) 16 128 → Post tb e args s (.returned v) u) :
    ArmFor flags0 classFile x code maxLocals ret World_1 tables_1 room_1 Calls_1 rest_1 Pre_1 Post := by
  intro l hfl _ _ p e ha hc hk s m args below hf hA hF happ hP
  obtain ⟨hcalls, hrest, hpre⟩ := hP
  obtain ⟨-, -, -, hnamed, -, -, -, hat⟩ := (Spec.applies_iff hf).mp happ
  obtain ⟨hg, hn⟩ := and_e (Cond.before_iff.mp (show (Jvm.Cond.and given_1 narrow_1).before args s = true from hpre))
  obtain ⟨g0, k0⟩ := and_e hg
  obtain ⟨g1, k1⟩ := and_e k0
  obtain ⟨g2, k2⟩ := and_e k1
  obtain ⟨g3, k3⟩ := and_e k2
  obtain ⟨g4, k4⟩ := and_e k3
  obtain ⟨g5, k5⟩ := and_e k4
  have g6 := k5
  obtain ⟨w0, w1, w2, w3, w4, w5, rfl⟩ : ∃ w0 w1 w2 w3 w4 w5 : Value, args = #[w0, w1, w2, w3, w4, w5] := by
    have hs : args.size = 6 := by simpa [Cond.value, given_1] using g0
    obtain ⟨L⟩ := args
    match L, hs with
    | [w0, w1, w2, w3, w4, w5], _ => exact ⟨w0, w1, w2, w3, w4, w5, rfl⟩
  have hw := fun d (hd : d ∈ tables_1) => atoms_spec (ws := Jvm.Cond.code x code maxLocals ret :: tables_1) hat d (List.mem_cons_of_mem _ hd)
  obtain ⟨i0, ei0⟩ := is_v g1
  obtain rfl : w0 = (.int i0) := Option.some.inj ei0
  obtain ⟨i1, ei1⟩ := is_v g2
  obtain rfl : w1 = (.int i1) := Option.some.inj ei1
  obtain ⟨i2, ei2⟩ := is_v g3
  obtain rfl : w2 = (.int i2) := Option.some.inj ei2
  obtain ⟨i3, ei3⟩ := is_v g4
  obtain rfl : w3 = (.int i3) := Option.some.inj ei3
  obtain ⟨i4, ei4⟩ := is_v g5
  obtain rfl : w4 = (.int i4) := Option.some.inj ei4
  obtain ⟨i5, ei5⟩ := is_v g6
  obtain rfl : w5 = (.int i5) := Option.some.inj ei5
  obtain ⟨n, o, h1, h2, h3, _, L, rfl, ⟨N, rfl⟩, hq⟩ := rm0 l s _ hw i0 i1 i2 i3 i4 i5 s.heap s.heap.size (Nat.le_refl _) tables_1 p e ha hc hk s m _ below hf ((Spec.applies_iff_loose hf).mp happ).1 ⟨rfl, State.Warmed39.refl s, rfl⟩ trivial
  refine ⟨n, _, h1, h2, h3, hpost _ _ _ _ _ _ ⟨Cond.after_iff.mpr rfl, Cond.after_iff.mpr (eq_i res_at (Term.int_eval (1)) rfl), trivial⟩ ⟨hq.1, hq.2.1, (hq.2.2.sift fun y hy => Or.inr (N y hy)).mono (by decide) (by decide)⟩⟩
theorem main_1_1 : Claimed_1_1 := comes_1 fun _ _ _ _ _ _ h hF => ⟨h.1, hF⟩
theorem main_1_2 : Claimed_1_2 := comes_1 fun _ _ _ _ _ _ h hF => ⟨h.2.1, hF⟩
end Jvm.Pilot.@@N@@
namespace Jvm.Pilot.@@N@@
open Jvm Jvm.ClassFile Sem Op Lib Jvm.Free Jvm.Stand Jvm.Pilot.@@N@@.Jvm.D
/-! MADE BY PROGRAM (witnessworld.py) out of the Statement's table words and the real class files: 10 classes; the members and pool entries that the words name. The judged class is class 1, her method 1. -/
namespace start1
open Jvm.ClassFile
def u (s : String) : CpInfo := .utf8 (stringToUtf16 s)
/-- a pool by its gaps: so many unusable entries, then the entry; so many at the end -/
def gap : Nat → List CpInfo → List CpInfo
  | 0, r => r
  | n + 1, r => .unusable :: gap n r
def poolList (es : List (Nat × CpInfo)) (last : Nat) : List CpInfo := es.foldr (fun e r => gap e.1 (e.2 :: r)) (gap last [])
def pool (es : List (Nat × CpInfo)) (last : Nat) : Array CpInfo := ⟨poolList es last⟩
def fileOf (pool : Array CpInfo) (this : Nat) (attrs : Array Attribute := #[]) (ms : Array MethodInfo := #[]) (fl : Nat := 33) (sup : Nat := 0) (ifs : Array Nat := #[]) (fds : Array FieldInfo := #[]) : ClassFile where
  minorVersion := 0
  majorVersion := 65
  constantPool := pool
  accessFlags := fl
  thisClass := this
  superClass := sup
  interfaces := ifs
  fields := fds
  methods := ms
  attributes := attrs
def plain (name : String) (sup : Option ClassId) : Class where
  name := name
  kind := .ordinary
  loader := none
  accessFlags := 33
  super := sup
  interfaces := #[]
  cf := none
  fields := #[]
  methods := #[]
  instanceTypes := #[]
  staticTypes := #[]
  resolved := #[]
  callSites := []
  init := .initialized
  statics := none
  mirror := none

def pool0 : Array CpInfo := pool [(5, u "<init>"), (0, u "()V"), (1, .class_ 10), (1, u "java/lang/Object")] 113

def k0c0 : Code := { maxStack := 0, maxLocals := 1, code := object_method_1_code, exceptionTable := #[], attributes := #[] }
def k0m0 : Method := { name := "<init>", desc := "()V", sig := { parameters := [], returnType := none }, accessFlags := 1, code := some k0c0 }
/-- java/lang/Object -/
def k0 : Class := { plain "java/lang/Object" none with
  accessFlags := 33
  interfaces := #[]
  cf := some (fileOf pool0 8 #[] #[{ accessFlags := 1, nameIndex := 5, descriptorIndex := 6, attributes := #[] }] 33 0 #[] #[])
  fields := #[]
  methods := #[k0m0]
  instanceTypes := #[]
  staticTypes := #[]
  resolved := Array.replicate 124 none
  statics := none }

def pool1 : Array CpInfo := pool [(2, .class_ 4), (1, u "java/lang/Object"), (0, u "<init>"), (0, u "()V"), (0, .class_ 8), (0, u "com/example/cardwarden/cardwarden/CommandApdu"), (0, .methodref 7 10), (0, .nameAndType 5 11), (0, u "([BII)V"), (0, .methodref 7 13), (0, .nameAndType 14 15), (0, u "isSelectByAid"), (0, u "()Z"), (0, .integer 10748928), (0, .class_ 18), (0, u "com/example/cardwarden/cardwarden/CommandApduIsSelectByAidPinLaw"), (2, u "law"), (0, u "(IIIIII)Z")] 5

def k1m0 : Method := { name := "<init>", desc := "()V", sig := { parameters := [], returnType := none }, accessFlags := 1, code := none }
def k1c1 : Code := { maxStack := 6, maxLocals := 15, code := code, exceptionTable := #[], attributes := #[] }
def k1m1 : Method := { name := "law", desc := "(IIIIII)Z", sig := { parameters := [.int, .int, .int, .int, .int, .int], returnType := some .boolean }, accessFlags := 9, code := some k1c1 }
/-- com/example/cardwarden/cardwarden/CommandApduIsSelectByAidPinLaw -/
def k1 : Class := { plain "com/example/cardwarden/cardwarden/CommandApduIsSelectByAidPinLaw" (some 0) with
  accessFlags := 49
  interfaces := #[]
  cf := some (fileOf pool1 17 #[] #[{ accessFlags := 1, nameIndex := 5, descriptorIndex := 6, attributes := #[] }, { accessFlags := 9, nameIndex := 21, descriptorIndex := 22, attributes := #[] }] 49 2 #[] #[])
  fields := #[]
  methods := #[k1m0, k1m1]
  instanceTypes := #[]
  staticTypes := #[]
  resolved := Array.replicate 28 none
  statics := none }

def pool2 : Array CpInfo := pool [(1, .methodref 2 3), (0, .class_ 4), (0, .nameAndType 5 6), (0, u "java/lang/Object"), (0, u "<init>"), (0, u "()V"), (0, .class_ 8), (0, u "java/lang/Record")] 13

def k2c0 : Code := { maxStack := 1, maxLocals := 1, code := jdk_30_method_1_code, exceptionTable := #[], attributes := #[] }
def k2m0 : Method := { name := "<init>", desc := "()V", sig := { parameters := [], returnType := none }, accessFlags := 4, code := some k2c0 }
/-- java/lang/Record -/
def k2 : Class := { plain "java/lang/Record" (some 0) with
  accessFlags := 1057
  interfaces := #[]
  cf := some (fileOf pool2 7 #[] #[{ accessFlags := 4, nameIndex := 5, descriptorIndex := 6, attributes := #[] }] 1057 2 #[] #[])
  fields := #[]
  methods := #[k2m0]
  instanceTypes := #[]
  staticTypes := #[]
  resolved := Array.replicate 22 none
  statics := none }

def pool3 : Array CpInfo := pool [(1, .methodref 2 3), (0, .class_ 4), (0, .nameAndType 5 6), (0, u "java/lang/Record"), (0, u "<init>"), (0, u "()V"), (0, .fieldref 8 9), (0, .class_ 10), (0, .nameAndType 11 12), (0, u "com/example/cardwarden/cardwarden/CommandApdu"), (0, u "bytes"), (0, u "[B"), (0, .fieldref 8 14), (0, .nameAndType 15 16), (0, u "lc"), (0, u "I"), (0, .fieldref 8 18), (0, .nameAndType 19 16), (0, u "ne"), (6, u "([BII)V"), (41, u "HEADER_LENGTH"), (11, u "isSelectByAid"), (0, u "()Z")] 37

def k3c0 : Code := { maxStack := 2, maxLocals := 4, code := prog_28_method_1_code, exceptionTable := #[], attributes := #[] }
def k3m0 : Method := { name := "<init>", desc := "([BII)V", sig := { parameters := [(.array .byte), .int, .int], returnType := none }, accessFlags := 0, code := some k3c0 }
def k3c1 : Code := { maxStack := 2, maxLocals := 1, code := prog_28_method_5_code, exceptionTable := #[], attributes := #[] }
def k3m1 : Method := { name := "isSelectByAid", desc := "()Z", sig := { parameters := [], returnType := some .boolean }, accessFlags := 0, code := some k3c1 }
/-- com/example/cardwarden/cardwarden/CommandApdu -/
def k3 : Class := { plain "com/example/cardwarden/cardwarden/CommandApdu" (some 2) with
  accessFlags := 48
  interfaces := #[]
  cf := some (fileOf pool3 8 #[] #[{ accessFlags := 0, nameIndex := 5, descriptorIndex := 26, attributes := #[] }, { accessFlags := 0, nameIndex := 80, descriptorIndex := 81, attributes := #[] }] 48 2 #[] #[{ accessFlags := 18, nameIndex := 11, descriptorIndex := 12, attributes := #[] }, { accessFlags := 18, nameIndex := 15, descriptorIndex := 16, attributes := #[] }, { accessFlags := 18, nameIndex := 19, descriptorIndex := 16, attributes := #[] }, { accessFlags := 26, nameIndex := 68, descriptorIndex := 16, attributes := #[] }])
  fields := #[{ name := "bytes", type := (.array .byte), accessFlags := 18, slot := 0, constantValue := 0 }, { name := "lc", type := .int, accessFlags := 18, slot := 1, constantValue := 0 }, { name := "ne", type := .int, accessFlags := 18, slot := 2, constantValue := 0 }, { name := "HEADER_LENGTH", type := .int, accessFlags := 26, slot := 0, constantValue := 0 }]
  methods := #[k3m0, k3m1]
  instanceTypes := #[(.array .byte), .int, .int]
  staticTypes := #[.int]
  resolved := Array.replicate 119 none
  statics := none }

def pool4 : Array CpInfo := pool [(1, u "java/lang/Cloneable"), (0, .class_ 1), (0, u "java/lang/Object"), (0, .class_ 3)] 3

/-- java/lang/Cloneable -/
def k4 : Class := { plain "java/lang/Cloneable" (some 0) with
  accessFlags := 1537
  interfaces := #[]
  cf := some (fileOf pool4 2 #[] #[] 1537 4 #[] #[])
  fields := #[]
  methods := #[]
  instanceTypes := #[]
  staticTypes := #[]
  resolved := Array.replicate 8 none
  statics := none }

def pool5 : Array CpInfo := pool [(1, u "java/io/Serializable"), (0, .class_ 1), (0, u "java/lang/Object"), (0, .class_ 3)] 3

/-- java/io/Serializable -/
def k5 : Class := { plain "java/io/Serializable" (some 0) with
  accessFlags := 1537
  interfaces := #[]
  cf := some (fileOf pool5 2 #[] #[] 1537 4 #[] #[])
  fields := #[]
  methods := #[]
  instanceTypes := #[]
  staticTypes := #[]
  resolved := Array.replicate 8 none
  statics := none }

/-- the primitive byte -/
def k6 : Class := { plain "byte" none with kind := .primitive 'B', accessFlags := 0x411 }
/-- [B -/
def k7 : Class := { plain "[B" (some 0) with kind := .array 6 .byte, interfaces := #[4, 5], accessFlags := 1041 }

/-- the primitive int -/
def k8 : Class := { plain "int" none with kind := .primitive 'I', accessFlags := 0x411 }
/-- [I -/
def k9 : Class := { plain "[I" (some 0) with kind := .array 8 .int, interfaces := #[4, 5], accessFlags := 1041 }

def heap : Heap := #[]
def classes : Array Class := #[k0, k1, k2, k3, k4, k5, k6, k7, k8, k9]
def interned : List (Array UInt16 × Addr) := []
def slotsUsed : Nat := 0
def theMethod : MethodId := ⟨1, 1⟩
def args0 : Array Value := #[.int 5, .int 5, .int 5, .int 5, .int 5, .int 5]
def aboutOver (below : List Frame) : State where
  vm := { classes := classes, interned := interned.toArray }
  heap := heap
  slotsUsed := slotsUsed
  threads := #[{ frames := .invoking theMethod args0 :: below }]
def below0 : List Frame := [.native { method := ⟨0, 0⟩, args := #[] }]
def about1 : State := aboutOver below0
def p0 : Program := .bare "" "" ""
def e0 : Env := launch0.env 0 0 0
theorem w_frames : about1.frames = Frame.invoking theMethod args0 :: below0 := rfl
set_option maxRecDepth 65536 in
theorem w_args : argsFit about1.vm theMethod args0 = true := by decide +kernel
set_option maxRecDepth 65536 in
theorem w_heap : heapFits about1 = true := by decide +kernel
set_option maxRecDepth 65536 in
theorem w_runnable : about1.curStatus? = some .runnable := by decide +kernel
set_option maxRecDepth 65536 in
theorem w_alone : about1.alone = true := by decide +kernel
set_option maxRecDepth 65536 in
theorem w_named : about1.methodNamed? x = some theMethod := by decide +kernel
set_option maxRecDepth 65536 in
theorem w_hears : about1.hears theMethod below0 = true := by decide +kernel
set_option maxRecDepth 65536 in
theorem w_ripe : about1.ripe theMethod args0 below0 = true := by decide +kernel
theorem w_running : about1.status = .running := rfl
set_option maxRecDepth 65536 in
theorem w_room : about1.hasRoom e0.platform room_1 = true :=
  launch0.hasRoom_least _ room_1 (by decide +kernel) (by decide +kernel) (by decide +kernel) (by decide +kernel) (by decide +kernel) (by decide +kernel)
theorem allAtoms_all (ts : List Jvm.Cond) (a : Array Jvm.Value) (st : Jvm.State) : (allAtoms ts).before a st = ts.all (fun c => c.before a st) := by
  induction ts with
  | nil => rfl
  | cons c t ih =>
    show (Jvm.Cond.and c (allAtoms t)).before a st = _
    rw [Jvm.Cond.before_and, ih, List.all_cons]
def words1 : List Jvm.Cond := Jvm.Cond.code x code maxLocals ret :: tables_1
/-- a 'code' word, met by the world's own term for the bytes: nothing is compared byte by byte -/
theorem code_word {y : MethodName} {bytes : ByteArray} {mx : Nat} {rt : Option FieldType} {a : Array Value} {s : State} {m : MethodId} {meth : Method} {c : Code} (h1 : s.methodNamed? y = some m) (h2 : s.vm.method? m = some meth) (h3 : meth.code = some c) (h4 : c.code = bytes)
    (h5 : (c.maxLocals == mx && c.exceptionTable.isEmpty && decide (c.maxStack ≤ mostOperands) && decide (meth.sig.returnType = rt) && !meth.locks && decide (parseMethodDescriptor y.desc = some meth.sig)) = true) : (Jvm.Cond.code y bytes mx rt).before a s = true := by
  simp only [Bool.and_eq_true, beq_iff_eq, Bool.not_eq_true', decide_eq_true_eq] at h5
  obtain ⟨⟨⟨⟨⟨g1, g2⟩, g3⟩, g4⟩, g5⟩, g6⟩ := h5
  simp [Cond.before, Cond.holds, Cond.value, h1, h2, h3, h4, g1, g2, g3, g4, g5, g6]
def isCode : Jvm.Cond → Bool
  | .code _ _ _ _ => true
  | _ => false
theorem all_split {L : List Jvm.Cond} {P : Jvm.Cond → Bool} (h1 : L.all (fun c => isCode c || P c) = true) (h2 : ∀ c ∈ L.filter isCode, P c = true) : L.all P = true := by
  refine List.all_eq_true.mpr fun c hc => ?_
  have h := List.all_eq_true.mp h1 c hc
  rcases Bool.eq_false_or_eq_true (isCode c) with hi | hi
  · exact h2 c (List.mem_filter.mpr ⟨hc, hi⟩)
  · simpa [hi] using h
set_option maxRecDepth 65536 in
theorem w_c0 : (Jvm.Cond.code x code maxLocals ret).before args0 about1 = true := code_word (m := ⟨1, 1⟩) (meth := k1m1) (c := k1c1) (by decide +kernel) rfl rfl rfl (by decide +kernel)
set_option maxRecDepth 65536 in
theorem w_c1 : (Jvm.Cond.code ({ cls := "com/example/cardwarden/cardwarden/CommandApdu", name := "<init>", desc := "([BII)V" } : Jvm.MethodName) prog_28_method_1_code (4 : Nat) (Option.none : Option Jvm.ClassFile.FieldType)).before args0 about1 = true := code_word (m := ⟨3, 0⟩) (meth := k3m0) (c := k3c0) (by decide +kernel) rfl rfl rfl (by decide +kernel)
set_option maxRecDepth 65536 in
theorem w_c2 : (Jvm.Cond.code ({ cls := "java/lang/Record", name := "<init>", desc := "()V" } : Jvm.MethodName) jdk_30_method_1_code (1 : Nat) (Option.none : Option Jvm.ClassFile.FieldType)).before args0 about1 = true := code_word (m := ⟨2, 0⟩) (meth := k2m0) (c := k2c0) (by decide +kernel) rfl rfl rfl (by decide +kernel)
set_option maxRecDepth 65536 in
theorem w_c3 : (Jvm.Cond.code ({ cls := "java/lang/Object", name := "<init>", desc := "()V" } : Jvm.MethodName) object_method_1_code (1 : Nat) (Option.none : Option Jvm.ClassFile.FieldType)).before args0 about1 = true := code_word (m := ⟨0, 0⟩) (meth := k0m0) (c := k0c0) (by decide +kernel) rfl rfl rfl (by decide +kernel)
set_option maxRecDepth 65536 in
theorem w_c4 : (Jvm.Cond.code ({ cls := "com/example/cardwarden/cardwarden/CommandApdu", name := "isSelectByAid", desc := "()Z" } : Jvm.MethodName) prog_28_method_5_code (1 : Nat) (Option.some Jvm.ClassFile.FieldType.boolean)).before args0 about1 = true := code_word (m := ⟨3, 1⟩) (meth := k3m1) (c := k3c1) (by decide +kernel) rfl rfl rfl (by decide +kernel)
def codes1 : List Jvm.Cond := [Jvm.Cond.code x code maxLocals ret, Jvm.Cond.code ({ cls := "com/example/cardwarden/cardwarden/CommandApdu", name := "<init>", desc := "([BII)V" } : Jvm.MethodName) prog_28_method_1_code (4 : Nat) (Option.none : Option Jvm.ClassFile.FieldType), Jvm.Cond.code ({ cls := "java/lang/Record", name := "<init>", desc := "()V" } : Jvm.MethodName) jdk_30_method_1_code (1 : Nat) (Option.none : Option Jvm.ClassFile.FieldType), Jvm.Cond.code ({ cls := "java/lang/Object", name := "<init>", desc := "()V" } : Jvm.MethodName) object_method_1_code (1 : Nat) (Option.none : Option Jvm.ClassFile.FieldType), Jvm.Cond.code ({ cls := "com/example/cardwarden/cardwarden/CommandApdu", name := "isSelectByAid", desc := "()Z" } : Jvm.MethodName) prog_28_method_5_code (1 : Nat) (Option.some Jvm.ClassFile.FieldType.boolean)]
set_option maxRecDepth 65536 in
theorem codes_eq : words1.filter isCode = codes1 := rfl
theorem w_codes : ∀ c ∈ words1.filter isCode, c.before args0 about1 = true := by
  rw [codes_eq]
  intro c hc
  simp only [codes1, List.mem_cons, List.not_mem_nil, or_false] at hc
  rcases hc with rfl | rfl | rfl | rfl | rfl
  · exact w_c0
  · exact w_c1
  · exact w_c2
  · exact w_c3
  · exact w_c4
set_option maxRecDepth 65536 in
theorem w_t1 : (words1.take 24).all (fun c => isCode c || c.before args0 about1) = true := by decide +kernel
set_option maxRecDepth 65536 in
theorem w_t2 : (words1.drop 24).all (fun c => isCode c || c.before args0 about1) = true := by decide +kernel
theorem w_tables : (allAtoms (Jvm.Cond.code x code maxLocals ret :: tables_1)).before args0 about1 = true := by
  rw [allAtoms_all]
  show words1.all (fun c => c.before args0 about1) = true
  refine all_split ?_ w_codes
  rw [← List.take_append_drop 24 words1, List.all_append, w_t1, w_t2]
  rfl
set_option maxRecDepth 65536 in
theorem w_case : (Jvm.Cond.and given_1 narrow_1).before args0 about1 = true := by decide +kernel
theorem w_applies : (headSpec (Jvm.Cond.code x code maxLocals ret :: tables_1) room_1).applies x e0.platform about1 = true :=
  (Spec.applies_iff w_frames).mpr ⟨w_running, w_runnable, w_alone, w_named, w_hears, w_ripe, w_room, w_tables⟩
theorem atStart : AtStart classFile x code maxLocals ret World_1 tables_1 room_1 Calls_1 rest_1 Pre_1 launch0 p0 e0 about1 theMethod args0 below0 :=
  ⟨lists_1, trivial, launch0.admits_env _ _ _, launch0.least_env, fairChoices_fair.cas, fairChoices_fair.clock, w_frames, w_args, w_heap, w_applies, trivial, trivial, w_case⟩
end start1
theorem witness_1 : WitnessClaimed_1 := ⟨start1.p0, start1.e0, start1.about1, start1.theMethod, start1.args0, start1.below0, start1.atStart⟩
end Jvm.Pilot.@@N@@
