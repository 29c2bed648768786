import JvmDerived
import JvmDerived.Pilot.@@N@@Statement
import JvmDerived.Pilot.@@N@@Code
set_option linter.unusedVariables false
set_option linter.unusedSimpArgs false
namespace Jvm.OwnKit
open Sem ClassFile Op Lib Jvm.Stand Jvm.Free Jvm.LawKit Jvm.RoadKit
/-! A small layer of my own over the library's laws: 'Goes': from this frame the body comes to its end; each law turned so that it reads backwards. -/
def Goes (tb : Tables) (e : Env) (below : List Frame) (Φ : Outcome → State → Prop) (T : State) (f : JFrame) : Prop :=
  ∃ s₂ o, Steps tb e below (T.setTop f) s₂ ∧ s₂.status = .running ∧ Ended s₂ below o ∧ Φ o s₂
def Fine (s : State) (n0 : Nat) (Q : Option Value → Heap → Prop) (rc rs : Nat) (o : Outcome) (U : State) : Prop :=
  ∃ v L, o = .returned v ∧ (Fr n0 L ∧ Q v U.heap) ∧ FrameEnd s o U L rc rs
def Base (p : Program) (s : State) (m : MethodId) (meth : Method) (c : Code) (Z : State) (y : MethodName) (bytes : ByteArray) (maxL : Nat) (ret : Option FieldType) : Prop :=
  p.tables.exec = Jvm.exec ∧ Z.Warmed39 s.vm ∧ c.code = bytes ∧ c.maxLocals = maxL ∧ s.vm.findClass y.cls = some m.cls ∧ meth.name = y.name ∧ meth.sig.returnType = ret ∧ meth.locks = false
def Sd (p : Program) (l : Launch) (e : Env) (R : Room) (s : State) (m : MethodId) (args : Array Value) (below : List Frame) (meth : Method) (c : Code) (T : State) (h : Heap) (n0 cells slots : Nat) : Prop :=
  ∃ locs, Stand p l e R s m args below meth c T locs cells slots ∧ T.heap = h ∧ Fr n0 locs ∧ n0 ≤ s.heap.size
def Con (l : Launch) (Z : State) (y : MethodName) (bytes : ByteArray) (maxL : Nat) (ret : Option FieldType) (rm : Room) (as' : Array Value) (h0 : Heap) (n0 : Nat) (Q : Option Value → Heap → Prop) : Prop :=
  n0 ≤ h0.size → ∀ ws : List Cond, MetFree l y (head1 (Cond.code y bytes maxL ret :: ws) rm) (fun a U => a = as' ∧ Z.Warmed39 U.vm ∧ U.heap = h0) (fun _ _ _ _ _ => True) (fun _ U o U' => ∃ v L, o = .returned v ∧ (Fr n0 L ∧ Q v U'.heap) ∧ FrameEnd U o U' L rm.cells rm.slots)
/-! a condition as 1 or 0 -/
def bi (P : Prop) [Decidable P] : Int32 := if P then 1 else 0
theorem bi_pos {P : Prop} [Decidable P] (h : P) : bi P = 1 := if_pos h
theorem bi_neg {P : Prop} [Decidable P] (h : ¬ P) : bi P = 0 := if_neg h
theorem bi_ne {P : Prop} [Decidable P] (h : P) : ¬ bi P = 0 := by rw [bi_pos h]; decide
theorem bi_congr {P P' : Prop} [Decidable P] [Decidable P'] (h : P ↔ P') : bi P = bi P' := by by_cases q : P <;> simp [bi, q, h.mp, ← h]
theorem bi_one {P : Prop} [Decidable P] : bi P = 1 ↔ P := by by_cases q : P <;> simp [bi, q]
theorem bi_zero {P : Prop} [Decidable P] : bi P = 0 ↔ ¬ P := by by_cases q : P <;> simp [bi, q]
theorem bi_inj {P P' : Prop} [Decidable P] [Decidable P'] : bi P = bi P' ↔ (P ↔ P') := by by_cases q : P <;> by_cases q' : P' <;> simp [bi, q, q']
theorem bi_or {P : Prop} [Decidable P] : bi P = 0 ∨ bi P = 1 := by by_cases q : P <;> simp [bi, q]
theorem nar_bi {P : Prop} [Decidable P] : nar .boolean (bi P) = bi P := by by_cases q : P <;> simp [bi, q, nar]
theorem fits_bi {P : Prop} [Decidable P] : fits .boolean (.int (bi P)) = true := by by_cases q : P <;> simp [bi, q] <;> decide
theorem narrow_bi {P : Prop} [Decidable P] : narrow .boolean (.int (bi P)) = .int (bi P) := by by_cases q : P <;> simp [bi, q] <;> rfl
section Lay
variable {p : Program} {l : Launch} {e : Env} {R : Room} {s : State} {m : MethodId} {args : Array Value} {below : List Frame} {meth : Method} {c : Code} {T : State} {h : Heap} {n0 cells slots : Nat} {Z : State} {a0 : Array Value} {Φ : Outcome → State → Prop} {y0 : MethodName} {bytes0 : ByteArray} {maxL0 : Nat} {ret0 : Option FieldType} {pc : Nat} {Ls : Array Slot} {st rest : List Value}
theorem Goes.go {tb : Tables} {T' : State} {f f' : JFrame} (k : ∀ t, Steps tb e below (T'.setTop f') t → Steps tb e below (T.setTop f) t) (g : Goes tb e below Φ T' f') : Goes tb e below Φ T f := by
  obtain ⟨s2, o, h1, h2⟩ := g
  exact ⟨s2, o, k _ h1, h2⟩
theorem Goes.dia {tb : Tables} {P : Prop} [Decidable P] {f : JFrame} {mk : Int32 → JFrame} (h1 : P → Goes tb e below Φ T (mk 1) → Goes tb e below Φ T f) (h0 : ¬ P → Goes tb e below Φ T (mk 0) → Goes tb e below Φ T f) (k : Goes tb e below Φ T (mk (bi P))) : Goes tb e below Φ T f := by
  by_cases q : P
  · rw [bi_pos q] at k; exact h1 q k
  · rw [bi_neg q] at k; exact h0 q k
theorem Goes.cast {tb : Tables} {f f' : JFrame} (q : f = f') (g : Goes tb e below Φ T f') : Goes tb e below Φ T f := q ▸ g
theorem Sd.here (S : Sd p l e R s m args below meth c T h n0 cells slots) : At T m c below := by obtain ⟨_, X, -⟩ := S; exact X.here
theorem Sd.le (S : Sd p l e R s m args below meth c T h n0 cells slots) : n0 ≤ h.size := by
  obtain ⟨_, X, e, -, q⟩ := S
  have h1 := X.same.2.1
  have h2 : s.heap.size ≤ T.heap.size := h1
  rw [e] at h2
  exact Nat.le_trans q h2
theorem Base.x (B : Base p s m meth c Z y0 bytes0 maxL0 ret0) : p.tables.exec = Jvm.exec := B.1
theorem Base.d (B : Base p s m meth c Z y0 bytes0 maxL0 ret0) {r : Except DecodeError (Instr × Nat)} (hd : decode bytes0 pc = r) : decode c.code pc = r := B.2.2.1 ▸ hd
theorem Con.body {y : MethodName} {bytes : ByteArray} {maxL : Nat} {ret : Option FieldType} {rm : Room} {as' : Array Value} {h0 : Heap} {Q : Option Value → Heap → Prop} (hpl : plainFor y = true)
    (k : ∀ (p : Program) (e : Env) (s : State) (m : MethodId) (below : List Frame) (meth : Method) (c : Code) (T : State), Base p s m meth c Z y bytes maxL ret → Sd p l e rm s m as' below meth c T h0 n0 0 0 → Goes p.tables e below (Fine s n0 Q rm.cells rm.slots) T (entryFrame m as' maxL)) :
    Con l Z y bytes maxL ret rm as' h0 n0 Q := by
  intro hn ws
  refine MetFree.of_bodySF hpl hisR ?_
  intro p e s m args below meth c s₁ Bd hml0 hP hK
  obtain ⟨rfl, hZ, hh⟩ := hP
  have e0 : s₁.heap = h0 := by rw [← hh, Bd.state]; rfl
  exact k p e s m below meth c s₁ ⟨Bd.exec, hZ, Bd.bytes, hml0, findClass_of_methodNamed Bd.named, (name_of_methodNamed Bd.named Bd.method).1, Bd.returns, Bd.notSynchronized⟩ ⟨[], Stand.of_body Bd, e0, Fr.nil n0, by rw [hh]; exact hn⟩
theorem Goes.acmp {cd : ACond} {x y : Value} {o : Int} {pc' : Nat} {same : Bool} (S : Sd p l e R s m args below meth c T h n0 cells slots) (B : Base p s m meth c Z y0 bytes0 maxL0 ret0) (h1 : x.isRef = true) (h2 : y.isRef = true) (hd : decode bytes0 pc = .ok (.if_acmp cd o, 3)) (hq : decide (x = y) = same) (ho : 0 ≤ (pc : Int) + o) (hp : pc' = if acV cd same = true then ((pc : Int) + o).toNat else pc + 3)
    (k : Goes p.tables e below Φ T (mkF m pc' Ls rest)) : Goes p.tables e below Φ T (mkF m pc Ls (y :: x :: rest)) := by
  obtain ⟨locs, X, eT, N, hn⟩ := S
  exact Goes.go (fun t => RoadKit.acmp X B.1 (g := mkF m pc Ls (y :: x :: rest)) rfl h1 h2 (pc0 := pc) (pc' := pc') (same := same) rfl (B.d hd) rfl hq ho hp) k
theorem Goes.pop2L {z : Int64} (S : Sd p l e R s m args below meth c T h n0 cells slots) (B : Base p s m meth c Z y0 bytes0 maxL0 ret0) (hd : decode bytes0 pc = .ok (.pop2, 1)) (k : Goes p.tables e below Φ T (mkF m (pc + 1) Ls rest)) : Goes p.tables e below Φ T (mkF m pc Ls (.long z :: rest)) := by
  obtain ⟨locs, X, eT, N, hn⟩ := S
  refine Goes.go (fun t kk => ?_) k
  have hx := B.1
  have hd' := B.d hd
  show Steps p.tables e below (T.setTop { method := m, pc := pc, locals := Ls, stack := _ :: rest, locked := none }) _
  jvm_step X.here [X.here.top, hx, hd', Value.category]
  exact kk
theorem Goes.irem {x y : Int32} (S : Sd p l e R s m args below meth c T h n0 cells slots) (B : Base p s m meth c Z y0 bytes0 maxL0 ret0) (hd : decode bytes0 pc = .ok (.irem, 1)) (hy : y ≠ 0) (k : Goes p.tables e below Φ T (mkF m (pc + 1) Ls (.int (x % y) :: rest))) : Goes p.tables e below Φ T (mkF m pc Ls (.int y :: .int x :: rest)) := by
  obtain ⟨locs, X, eT, N, hn⟩ := S
  exact Goes.go (fun t => RoadKit.iremM X B.1 (g := mkF m pc Ls (.int y :: .int x :: rest)) rfl (B.d hd) rfl hy) k
theorem Goes.lrem {x y : Int64} (S : Sd p l e R s m args below meth c T h n0 cells slots) (B : Base p s m meth c Z y0 bytes0 maxL0 ret0) (hd : decode bytes0 pc = .ok (.lrem, 1)) (hy : y ≠ 0) (k : Goes p.tables e below Φ T (mkF m (pc + 1) Ls (.long (x % y) :: rest))) : Goes p.tables e below Φ T (mkF m pc Ls (.long y :: .long x :: rest)) := by
  obtain ⟨locs, X, eT, N, hn⟩ := S
  refine Goes.go (fun t kk => XS.lrem X.here B.1 (g := mkF m pc Ls (.long y :: .long x :: rest)) rfl (B.d hd) rfl hy ?_) k
  rw [lrem_mod]
  exact kk
/-! the ends -/
section Ends
variable {Q : Option Value → Heap → Prop} {rc rs : Nat}
theorem Goes.retV (S : Sd p l e R s m args below meth c T h n0 cells slots) (B : Base p s m meth c Z y0 bytes0 maxL0 none) (hd : decode bytes0 pc = .ok (.return_, 1)) (hc : cells ≤ rc) (hs : slots ≤ rs) (hq : Q none h) :
    Goes p.tables e below (Fine s n0 Q rc rs) T (mkF m pc Ls []) := by
  obtain ⟨locs, X, eT, N, -⟩ := S
  obtain ⟨fs, hr, hrun, hended, hW, hsame⟩ := X.leave (v := none) (fun _ => rfl) B.2.2.2.2.2.2.2
  subst eT
  exact ⟨_, _, X.returnOut B.1 B.2.2.2.2.2.2.1 (B.d hd) hr, hrun, hended, _, _, rfl, ⟨N, hq⟩, ⟨_, rfl⟩, hW, hsame.mono hc hs⟩
theorem Goes.retN {t : FieldType} {z : Int32} (S : Sd p l e R s m args below meth c T h n0 cells slots) (B : Base p s m meth c Z y0 bytes0 maxL0 (some t)) (ht : t = .boolean ∨ t = .byte ∨ t = .char ∨ t = .short) (hd : decode bytes0 pc = .ok (.ireturn, 1)) (hc : cells ≤ rc) (hs : slots ≤ rs) (hq : Q (some (.int (nar t z))) h) :
    Goes p.tables e below (Fine s n0 Q rc rs) T (mkF m pc Ls (.int z :: rest)) := by
  obtain ⟨locs, X, eT, N, -⟩ := S
  obtain ⟨fs, hr, hrun, hended, hW, hsame⟩ := X.leave (v := some (.int (nar t z))) (fun h => by rw [B.2.2.2.2.2.2.1] at h; cases h) B.2.2.2.2.2.2.2
  subst eT
  exact ⟨_, _, RoadKit.retN X B.1 B.2.2.2.2.2.2.1 ht (B.d hd) hr, hrun, hended, _, _, rfl, ⟨N, hq⟩, ⟨_, rfl⟩, hW, hsame.mono hc hs⟩
theorem Goes.retI {z : Int32} (S : Sd p l e R s m args below meth c T h n0 cells slots) (B : Base p s m meth c Z y0 bytes0 maxL0 (some .int)) (hd : decode bytes0 pc = .ok (.ireturn, 1)) (hc : cells ≤ rc) (hs : slots ≤ rs) (hq : Q (some (.int z)) h) :
    Goes p.tables e below (Fine s n0 Q rc rs) T (mkF m pc Ls (.int z :: rest)) := by
  obtain ⟨locs, X, eT, N, -⟩ := S
  obtain ⟨fs, hr, hrun, hended, hW, hsame⟩ := X.leave (v := some (.int z)) (fun h => by rw [B.2.2.2.2.2.2.1] at h; cases h) B.2.2.2.2.2.2.2
  subst eT
  refine ⟨_, _, ?_, hrun, hended, _, _, rfl, ⟨N, hq⟩, ⟨_, rfl⟩, hW, hsame.mono hc hs⟩
  have hm' : T.vm.method? m = some meth := X.method'
  have hn : narrow .int (.int z) = .int z := rfl
  have hx := B.1
  have hret := B.2.2.2.2.2.2.1
  have hd' := B.d hd
  show Steps p.tables e below (T.setTop { method := m, pc := pc, locals := Ls, stack := _ :: rest, locked := none }) _
  jvm_step X.here [X.here.top, hx, hd', hm', hret, hn]
  first | (intro acts; rw [hr _ acts rfl rfl rfl]) | rw [hr _ _ rfl rfl rfl]
  exact Steps.refl _
theorem Goes.retL {z : Int64} (S : Sd p l e R s m args below meth c T h n0 cells slots) (B : Base p s m meth c Z y0 bytes0 maxL0 (some .long)) (hd : decode bytes0 pc = .ok (.lreturn, 1)) (hc : cells ≤ rc) (hs : slots ≤ rs) (hq : Q (some (.long z)) h) :
    Goes p.tables e below (Fine s n0 Q rc rs) T (mkF m pc Ls (.long z :: rest)) := by
  obtain ⟨locs, X, eT, N, -⟩ := S
  obtain ⟨fs, hr, hrun, hended, hW, hsame⟩ := X.leave (v := some (.long z)) (fun h => by rw [B.2.2.2.2.2.2.1] at h; cases h) B.2.2.2.2.2.2.2
  subst eT
  refine ⟨_, _, ?_, hrun, hended, _, _, rfl, ⟨N, hq⟩, ⟨_, rfl⟩, hW, hsame.mono hc hs⟩
  have hm' : T.vm.method? m = some meth := X.method'
  have hx := B.1
  have hret := B.2.2.2.2.2.2.1
  have hd' := B.d hd
  show Steps p.tables e below (T.setTop { method := m, pc := pc, locals := Ls, stack := _ :: rest, locked := none }) _
  jvm_step X.here [X.here.top, hx, hd', hm', hret, narrow]
  first | (intro acts; rw [hr _ acts rfl rfl rfl]) | rw [hr _ _ rfl rfl rfl]
  exact Steps.refl _
theorem Goes.retA {b : Addr} {t : FieldType} (S : Sd p l e R s m args below meth c T h n0 cells slots) (B : Base p s m meth c Z y0 bytes0 maxL0 (some t)) (ht : t.isReference = true) (hd : decode bytes0 pc = .ok (.areturn, 1)) (hc : cells ≤ rc) (hs : slots ≤ rs) (hq : Q (some (.ref b)) h) :
    Goes p.tables e below (Fine s n0 Q rc rs) T (mkF m pc Ls (.ref b :: rest)) := by
  obtain ⟨locs, X, eT, N, -⟩ := S
  obtain ⟨fs, hr, hrun, hended, hW, hsame⟩ := X.leave (v := some (.ref b)) (fun h => by rw [B.2.2.2.2.2.2.1] at h; cases h) B.2.2.2.2.2.2.2
  subst eT
  refine ⟨_, _, ?_, hrun, hended, _, _, rfl, ⟨N, hq⟩, ⟨_, rfl⟩, hW, hsame.mono hc hs⟩
  have hm' : T.vm.method? m = some meth := X.method'
  have hx := B.1
  have hret := B.2.2.2.2.2.2.1
  have hd' := B.d hd
  show Steps p.tables e below (T.setTop { method := m, pc := pc, locals := Ls, stack := _ :: rest, locked := none }) _
  jvm_step X.here [X.here.top, hx, hd', hm', hret, Value.isRef, ht]
  first | (intro acts; rw [hr _ acts rfl rfl rfl]) | rw [hr _ _ rfl rfl rfl]
  exact Steps.refl _
end Ends
/-! fields and objects -/
theorem Goes.getF {O n d : String} {index : Nat} {a : Addr} {v : Value} (S : Sd p l e R s m args below meth c T h n0 cells slots) (B : Base p s m meth c Z y0 bytes0 maxL0 ret0) (w : (Cond.fieldLink y0.cls index O n d).before a0 Z = true) (F : Fld Z h a O n d v) (hd : decode bytes0 pc = .ok (.getfield index, 3))
    (k : ∀ T', Sd p l e R s m args below meth c T' h n0 cells slots → Goes p.tables e below Φ T' (mkF m (pc + 3) Ls (v :: rest))) : Goes p.tables e below Φ T (mkF m pc Ls (.ref a :: rest)) := by
  obtain ⟨locs, X, eT, N, hn⟩ := S
  obtain ⟨T', X', e', stp⟩ := RoadKit.getF X B.1 B.2.1 B.2.2.2.2.1 (host := "") (Or.inl w) Via.refl eT F (g := mkF m pc Ls (.ref a :: rest)) rfl rfl (B.d hd)
  exact Goes.go stp (k T' ⟨locs, X', e', N, hn⟩)
theorem Goes.putF {O n d C : String} {index kk : Nat} {ty : FieldType} {a : Addr} {v v' old : Value} (S : Sd p l e R s m args below meth c T h n0 cells slots) (B : Base p s m meth c Z y0 bytes0 maxL0 ret0) (w : (Cond.fieldLink y0.cls index O n d).before a0 Z = true) (F : Fld Z h a O n d old) (E : Exa Z h a C)
    (L : (Cond.lays C O n d).before a0 Z = true ∨ ((Cond.laysFinal C O n d).before a0 Z = true ∧ y0.cls = O ∧ y0.name = "<init>")) (wi : (Cond.instantiable C kk).before a0 Z = true) (hty : parseFieldDescriptor d = some ty) (hnr : narrow ty v = v') (hf : fits ty v' = true) (ga : n0 ≤ a) (hd : decode bytes0 pc = .ok (.putfield index, 3))
    (k : ∀ T' h', Sd p l e R s m args below meth c T' h' n0 cells slots → Wr h h' a (RoadKit.slotOf Z O n d) v' → Goes p.tables e below Φ T' (mkF m (pc + 3) Ls rest)) : Goes p.tables e below Φ T (mkF m pc Ls (v :: .ref a :: rest)) := by
  obtain ⟨locs, X, eT, N, hn⟩ := S
  obtain ⟨T', h', X', e', W, stp⟩ := RoadKit.putFN X B.1 B.2.1 B.2.2.2.2.1 w Via.refl eT F E (L.imp id fun q => ⟨q.1, q.2.1, B.2.2.2.2.2.1.trans q.2.2⟩) wi hty hnr hf (g := mkF m pc Ls (v :: .ref a :: rest)) rfl rfl (B.d hd)
  exact Goes.go stp (k T' h' ⟨_, X', e', Fr.snoc X' N ga, hn⟩ W)
theorem Goes.newO {C : String} {index nn : Nat} (S : Sd p l e R s m args below meth c T h n0 cells slots) (B : Base p s m meth c Z y0 bytes0 maxL0 ret0) (w : (Cond.classLink y0.cls index C).before a0 Z = true) (wi : (Cond.instantiable C nn).before a0 Z = true) (wz : (Cond.initialized C).before a0 Z = true) (hd : decode bytes0 pc = .ok (.new index, 3)) (hc : cells + 1 ≤ R.cells) (hl : slots + nn ≤ R.slots)
    (k : ∀ T' h' b, Sd p l e R s m args below meth c T' h' n0 (cells + 1) (slots + nn) → Ext h h' → b = h.size → n0 ≤ b → Exa Z h' b C → (∀ {O nm d : String} {ty : FieldType}, Laid Z a0 C O nm d → parseFieldDescriptor d = some ty → Fld Z h' b O nm d (defaultValue ty)) → Goes p.tables e below Φ T' (mkF m (pc + 3) Ls (.ref b :: st))) :
    Goes p.tables e below Φ T (mkF m pc Ls st) := by
  have hle := S.le
  obtain ⟨locs, X, eT, N, hn⟩ := S
  obtain ⟨T', h', X', e', E, A, D, -, stp⟩ := RoadKit.newO X B.1 B.2.1 B.2.2.2.2.1 w wi wz eT (g := mkF m pc Ls st) rfl (B.d hd) hc hl
  exact Goes.go stp (k T' h' h.size ⟨locs, X', e', N, hn⟩ E rfl hle A D)
theorem Goes.initO {index : Nat} {a : Addr} {W : Nat} (S : Sd p l e R s m args below meth c T h n0 cells slots) (B : Base p s m meth c Z y0 bytes0 maxL0 ret0) (w1 : (Cond.methodLink y0.cls index Lib.objectInit).before a0 Z = true) (w2 : (Cond.instanceMethod Lib.objectInit).before a0 Z = true) (w3 : (Cond.code Lib.objectInit ⟨#[0xb1]⟩ 1 none).before a0 Z = true)
    (hd : decode bytes0 pc = .ok (.invokespecial index, 3)) (hsz : Ls.size = maxL0) (hf : 1 ≤ R.frames) (hW : 2 * 0 + (rest.map fun v => v.category).sum ≤ W) (hl : W + 12 ≤ R.locals)
    (k : ∀ T', Sd p l e R s m args below meth c T' h n0 cells slots → Goes p.tables e below Φ T' (mkF m (pc + 3) Ls rest)) : Goes p.tables e below Φ T (mkF m pc Ls (.ref a :: rest)) := by
  obtain ⟨locs, X, eT, N, hn⟩ := S
  obtain ⟨T', X', e', stp⟩ := RoadKit.initO X B.1 B.2.1 B.2.2.2.2.1 w1 w2 w3 eT (g := mkF m pc Ls (.ref a :: rest)) rfl (by rw [B.2.2.2.1]; exact hsz) rfl (B.d hd) hf hW hl
  exact Goes.go stp (k T' ⟨locs, X', e', N, hn⟩)
theorem Goes.ldcI {index : Nat} {v : Int32} (S : Sd p l e R s m args below meth c T h n0 cells slots) (B : Base p s m meth c Z y0 bytes0 maxL0 ret0) (w : (Cond.constant y0.cls index v).before a0 Z = true) (hd : decode bytes0 pc = .ok (.ldc index, 2)) (k : Goes p.tables e below Φ T (mkF m (pc + 2) Ls (.int v :: st))) : Goes p.tables e below Φ T (mkF m pc Ls st) := by
  obtain ⟨locs, X, eT, N, hn⟩ := S
  exact Goes.go (X.ldcInt B.1 B.2.2.2.2.1 (mvT B.2.1 w) (g := mkF m pc Ls st) rfl (B.d hd)) k
theorem Goes.ldcL {index : Nat} {v : Int64} (S : Sd p l e R s m args below meth c T h n0 cells slots) (B : Base p s m meth c Z y0 bytes0 maxL0 ret0) (w : (Cond.constantLong y0.cls index v).before a0 Z = true) (hd : decode bytes0 pc = .ok (.ldc2_w index, 3)) (k : Goes p.tables e below Φ T (mkF m (pc + 3) Ls (.long v :: st))) : Goes p.tables e below Φ T (mkF m pc Ls st) := by
  obtain ⟨locs, X, eT, N, hn⟩ := S
  exact Goes.go (X.ldc2Long B.1 B.2.2.2.2.1 (mvT B.2.1 w) (g := mkF m pc Ls st) rfl (B.d hd)) k
/-! calls -/
section Calls
variable {y : MethodName} {bytes : ByteArray} {maxL : Nat} {ret : Option FieldType} {rm : Room} {index W : Nat} {argsL : List Value} {Q : Option Value → Heap → Prop}
theorem Con.back {as' : Array Value} {len : Nat} (C : Con l Z y bytes maxL ret rm as' h n0 Q) (hn : n0 ≤ h.size) (hZ : Z.Warmed39 s.vm) (wc : (Cond.code y bytes maxL ret).before a0 Z = true) (wz : (Cond.initialized y.cls).before a0 Z = true) (hf : rm.frames + 1 ≤ R.frames) (hl : W + (maxL + 11) + rm.locals ≤ R.locals) :
    Back l R p e below s args y len W (fun A a => a = as' ∧ A.U.heap = h ∧ A.cells + rm.cells ≤ R.cells ∧ A.slots + rm.slots ≤ R.slots)
      (fun A _ v B => ∃ L, (Fr n0 L ∧ Q v B.U.heap) ∧ B.locs = A.locs ++ L ∧ B.cells = A.cells + rm.cells ∧ B.slots = A.slots + rm.slots) :=
  backOf (Q := fun v h L => Fr n0 L ∧ Q v h) (C hn []) hZ wc wz hf hl
theorem Goes.callS (S : Sd p l e R s m args below meth c T h n0 cells slots) (B : Base p s m meth c Z y0 bytes0 maxL0 ret0) (C : Con l Z y bytes maxL ret rm argsL.toArray h n0 Q) (wl : (Cond.methodLink y0.cls index y).before a0 Z = true) (ws : (Cond.static y).before a0 Z = true) (wi : (Cond.initialized y.cls).before a0 Z = true) (wc : (Cond.code y bytes maxL ret).before a0 Z = true)
    (hy : y.cls ≠ "java/lang/invoke/MethodHandle" ∧ y.cls ≠ "java/lang/invoke/VarHandle") (hf : rm.frames + 1 ≤ R.frames) (hlo : W + (maxL + 11) + rm.locals ≤ R.locals) (hc : cells + rm.cells ≤ R.cells) (hs : slots + rm.slots ≤ R.slots) (hsz : Ls.size = maxL0)
    (hlen : ∀ sig, parseMethodDescriptor y.desc = some sig → argsL.length = sig.parameters.length) (hst : st = argsL.reverse ++ rest) (hW : 2 * 0 + (rest.map fun v => v.category).sum ≤ W) (hd : decode bytes0 pc = .ok (.invokestatic index, 3))
    (k : ∀ v T' h', Sd p l e R s m args below meth c T' h' n0 (cells + rm.cells) (slots + rm.slots) → Q v h' → Goes p.tables e below Φ T' (mkF m (pc + 3) Ls (v.toList ++ rest))) : Goes p.tables e below Φ T (mkF m pc Ls st) := by
  have hle := S.le
  obtain ⟨locs, X, eT, N, hn⟩ := S
  subst hst
  obtain ⟨v, _, ⟨T', L', k', n'⟩, -, X', ⟨Lc, ⟨hN, hQ⟩, l1, y1, z1⟩, stp⟩ := Jvm.LawKit.callS X B.1 (y := y) B.2.2.2.2.1 (mvT B.2.1 wl) (mvT B.2.1 ws) (mvT B.2.1 wi) (mvT B.2.1 wc) hy (Con.back (W := W) C hle B.2.1 wc wi hf hlo) (g := mkF m pc Ls (argsL.reverse ++ rest)) rfl (by rw [B.2.2.2.1]; exact hsz) (argsL := argsL) (rest := rest) hlen rfl hW (B.d hd) (fun _ _ => ⟨rfl, eT, hc, hs⟩)
  dsimp only [Pt.U, Pt.locs, Pt.cells, Pt.slots] at X' l1 y1 z1 stp hQ
  subst l1 y1 z1
  exact Goes.go stp (k v T' T'.heap ⟨_, X', rfl, N.app hN, hn⟩ hQ)
theorem Goes.callI {b : Addr} (S : Sd p l e R s m args below meth c T h n0 cells slots) (B : Base p s m meth c Z y0 bytes0 maxL0 ret0) (C : Con l Z y bytes maxL none rm (.ref b :: argsL).toArray h n0 Q) (wl : (Cond.methodLink y0.cls index y).before a0 Z = true) (wim : (Cond.instanceMethod y).before a0 Z = true) (wi : (Cond.initialized y.cls).before a0 Z = true) (wc : (Cond.code y bytes maxL none).before a0 Z = true)
    (hy : y.cls ≠ "java/lang/invoke/MethodHandle" ∧ y.cls ≠ "java/lang/invoke/VarHandle") (hni : y.name = "<init>") (hf : rm.frames + 1 ≤ R.frames) (hlo : W + (maxL + 11) + rm.locals ≤ R.locals) (hc : cells + rm.cells ≤ R.cells) (hs : slots + rm.slots ≤ R.slots) (hsz : Ls.size = maxL0)
    (hlen : ∀ sig, parseMethodDescriptor y.desc = some sig → argsL.length = sig.parameters.length) (hst : st = argsL.reverse ++ .ref b :: rest) (hW : 2 * 0 + (rest.map fun v => v.category).sum ≤ W) (hd : decode bytes0 pc = .ok (.invokespecial index, 3))
    (k : ∀ v T' h', Sd p l e R s m args below meth c T' h' n0 (cells + rm.cells) (slots + rm.slots) → Q v h' → Goes p.tables e below Φ T' (mkF m (pc + 3) Ls (v.toList ++ rest))) : Goes p.tables e below Φ T (mkF m pc Ls st) := by
  have hle := S.le
  obtain ⟨locs, X, eT, N, hn⟩ := S
  subst hst
  obtain ⟨v, _, ⟨T', L', k', n'⟩, -, X', ⟨Lc, ⟨hN, hQ⟩, l1, y1, z1⟩, stp⟩ := X.specialBack B.1 (y := y) hni B.2.2.2.2.1 (mvT B.2.1 wl) (mvT B.2.1 wim) (mvT B.2.1 wc) hy (Con.back (W := W) C hle B.2.1 wc wi hf hlo) (g := mkF m pc Ls (argsL.reverse ++ .ref b :: rest)) rfl (by rw [B.2.2.2.1]; exact hsz) (Steps.refl _) (a := b) (argsL := argsL) (rest := rest) hlen rfl hW (B.d hd) (fun _ _ => ⟨rfl, eT, hc, hs⟩)
  dsimp only [Pt.U, Pt.locs, Pt.cells, Pt.slots] at X' l1 y1 z1 stp hQ
  subst l1 y1 z1
  exact Goes.go (fun t q => stp.trans q) (k v T' T'.heap ⟨_, X', rfl, N.app hN, hn⟩ hQ)
theorem Goes.callV {b : Addr} {K : String} (S : Sd p l e R s m args below meth c T h n0 cells slots) (B : Base p s m meth c Z y0 bytes0 maxL0 ret0) (C : Con l Z y bytes maxL ret rm (.ref b :: argsL).toArray h n0 Q) (E : Exa Z h b K) (wl : (Cond.methodLink y0.cls index y).before a0 Z = true) (wd : (Cond.declares y).before a0 Z = true) (wsel : (Cond.selects K y y).before a0 Z = true) (wim : (Cond.instanceMethod y).before a0 Z = true) (wi : (Cond.initialized y.cls).before a0 Z = true) (wc : (Cond.code y bytes maxL ret).before a0 Z = true)
    (hy : y.cls ≠ "java/lang/invoke/MethodHandle" ∧ y.cls ≠ "java/lang/invoke/VarHandle") (hf : rm.frames + 1 ≤ R.frames) (hlo : W + (maxL + 11) + rm.locals ≤ R.locals) (hc : cells + rm.cells ≤ R.cells) (hs : slots + rm.slots ≤ R.slots) (hsz : Ls.size = maxL0)
    (hlen : ∀ sig, parseMethodDescriptor y.desc = some sig → argsL.length = sig.parameters.length) (hst : st = argsL.reverse ++ .ref b :: rest) (hW : 2 * 0 + (rest.map fun v => v.category).sum ≤ W) (hd : decode bytes0 pc = .ok (.invokevirtual index, 3))
    (k : ∀ v T' h', Sd p l e R s m args below meth c T' h' n0 (cells + rm.cells) (slots + rm.slots) → Q v h' → Goes p.tables e below Φ T' (mkF m (pc + 3) Ls (v.toList ++ rest))) : Goes p.tables e below Φ T (mkF m pc Ls st) := by
  have hle := S.le
  obtain ⟨locs, X, eT, N, hn⟩ := S
  subst hst
  obtain ⟨cq, kq, qa, qb, qc⟩ := isOf B.2.1 eT E
  obtain ⟨v, _, ⟨T', L', k', n'⟩, -, X', ⟨Lc, ⟨hN, hQ⟩, l1, y1, z1⟩, stp⟩ := X.virtualBack B.1 (y := y) (z := y) B.2.2.2.2.1 (mvT B.2.1 wl) (mvT B.2.1 wd) (notFace_of_selects (args := #[]) (mvT B.2.1 wsel)) (mvT B.2.1 wsel) (mvT B.2.1 wim) hy (Con.back (W := W) C hle B.2.1 wc wi hf hlo) qa qc (g := mkF m pc Ls (argsL.reverse ++ .ref b :: rest)) rfl (by rw [B.2.2.2.1]; exact hsz) (Steps.refl _) (argsL := argsL) (rest := rest) hlen rfl hW (B.d hd) (fun _ _ => ⟨rfl, eT, hc, hs⟩)
  dsimp only [Pt.U, Pt.locs, Pt.cells, Pt.slots] at X' l1 y1 z1 stp hQ
  subst l1 y1 z1
  exact Goes.go (fun t q => stp.trans q) (k v T' T'.heap ⟨_, X', rfl, N.app hN, hn⟩ hQ)
theorem Goes.callP {b : Addr} {K : String} (S : Sd p l e R s m args below meth c T h n0 cells slots) (B : Base p s m meth c Z y0 bytes0 maxL0 ret0) (C : Con l Z y bytes maxL ret rm (.ref b :: argsL).toArray h n0 Q) (E : Exa Z h b K) (wl : (Cond.methodLink y0.cls index y).before a0 Z = true) (wp : (Cond.privateMethod y).before a0 Z = true) {kk : Nat} (wk : (Cond.instantiable y.cls kk).before a0 Z = true) (wim : (Cond.instanceMethod y).before a0 Z = true) (wi : (Cond.initialized y.cls).before a0 Z = true) (wc : (Cond.code y bytes maxL ret).before a0 Z = true)
    (hy : y.cls ≠ "java/lang/invoke/MethodHandle" ∧ y.cls ≠ "java/lang/invoke/VarHandle") (hf : rm.frames + 1 ≤ R.frames) (hlo : W + (maxL + 11) + rm.locals ≤ R.locals) (hc : cells + rm.cells ≤ R.cells) (hs : slots + rm.slots ≤ R.slots) (hsz : Ls.size = maxL0)
    (hlen : ∀ sig, parseMethodDescriptor y.desc = some sig → argsL.length = sig.parameters.length) (hst : st = argsL.reverse ++ .ref b :: rest) (hW : 2 * 0 + (rest.map fun v => v.category).sum ≤ W) (hd : decode bytes0 pc = .ok (.invokevirtual index, 3))
    (k : ∀ v T' h', Sd p l e R s m args below meth c T' h' n0 (cells + rm.cells) (slots + rm.slots) → Q v h' → Goes p.tables e below Φ T' (mkF m (pc + 3) Ls (v.toList ++ rest))) : Goes p.tables e below Φ T (mkF m pc Ls st) := by
  have hle := S.le
  obtain ⟨locs, X, eT, N, hn⟩ := S
  subst hst
  obtain ⟨cq, q1, q2⟩ := E.cell
  have hpr : s.PrivateAt y := Cond.privateMethod_at (mvP B.2.1 wp (args := #[]))
  have wsel : (Cond.selects y.cls y y).before args s = true := by
    obtain ⟨ci, ki, i1, i2, i3, i4, -⟩ := Cond.instantiable_spec (mvT B.2.1 wk (args := args))
    exact selects_self_of_private i1 i2 (Bool.or_eq_false_iff.mp i4).1 hpr (mvT B.2.1 wim) hy
  obtain ⟨v, _, ⟨T', L', k', n'⟩, -, X', ⟨Lc, ⟨hN, hQ⟩, l1, y1, z1⟩, stp⟩ := X.privateBack B.1 (y := y) B.2.2.2.2.1 (mvT B.2.1 wl) (mvT B.2.1 wim) wsel hpr (mvT B.2.1 wc) hy (Con.back (W := W) C hle B.2.1 wc wi hf hlo) (g := mkF m pc Ls (argsL.reverse ++ .ref b :: rest)) rfl (by rw [B.2.2.2.1]; exact hsz) (Steps.refl _) (a := b) (by rw [eT]; exact q1) q2 (argsL := argsL) (rest := rest) hlen rfl hW (B.d hd) (fun _ _ => ⟨rfl, eT, hc, hs⟩)
  dsimp only [Pt.U, Pt.locs, Pt.cells, Pt.slots] at X' l1 y1 z1 stp hQ
  subst l1 y1 z1
  exact Goes.go (fun t q => stp.trans q) (k v T' T'.heap ⟨_, X', rfl, N.app hN, hn⟩ hQ)
end Calls
/-! arrays: what lies at each place, as a function -/
def Ary (Z : State) (h : Heap) (a : Addr) (ty : FieldType) (n : Nat) (f : Nat → Value) : Prop := ∃ c : Cell, Arr Z h a c ty ∧ c.slots.size = n ∧ n < 2 ^ 31 ∧ ∀ i, i < n → c.slots[i]? = some (f i)
def upd {α : Type} (f : Nat → α) (i : Nat) (v : α) : Nat → α := fun k => if k = i then v else f k
theorem upd_int (g : Nat → Int32) (k : Nat) (x : Int32) : upd (fun i => Value.int (g i)) k (.int x) = fun i => .int (upd g k x i) := by
  funext i
  simp only [upd]
  split <;> rfl
theorem upd_long (g : Nat → Int64) (k : Nat) (x : Int64) : upd (fun i => Value.long (g i)) k (.long x) = fun i => .long (upd g k x i) := by
  funext i
  simp only [upd]
  split <;> rfl
section Arrays
variable {a b : Addr} {ty : FieldType} {n : Nat} {f : Nat → Value} {h' : Heap} {j : Int32} {v : Value} {sl : Nat} {ws : List Addr}
theorem Ary.lt (A : Ary Z h a ty n f) : a < h.size := by obtain ⟨c, A, -⟩ := A; exact A.lt
theorem Ary.ext (A : Ary Z h a ty n f) (E : Ext h h') : Ary Z h' a ty n f := by obtain ⟨c, A, r⟩ := A; exact ⟨c, A.ext E, r⟩
theorem Ary.other (A : Ary Z h b ty n f) (W : Wr h h' a sl v) (q : b ≠ a) : Ary Z h' b ty n f := by obtain ⟨c, A, r⟩ := A; exact ⟨c, A.other W q, r⟩
theorem Ary.keep (A : Ary Z h a ty n f) (K : Keep h h' ws) (q : a ∉ ws) : Ary Z h' a ty n f := by obtain ⟨c, A, r⟩ := A; exact ⟨c, ⟨K.2.1 a c A.1 q, A.2⟩, r⟩
theorem Ary.cast {g : Nat → Value} (A : Ary Z h a ty n f) (q : ∀ i, i < n → f i = g i) : Ary Z h a ty n g := by obtain ⟨c, A, r1, r2, r3⟩ := A; exact ⟨c, A, r1, r2, fun i hi => by rw [r3 i hi, q i hi]⟩
theorem Ary.new {z : Int32} {k : ClassId} (A : Arr Z h a (newA k ty z) ty) (q : ¬ z < 0) : Ary Z h a ty z.toNatClampNeg (fun _ => defaultValue ty) :=
  ⟨_, A, sz_new _ _ _, (back32 q).2, fun i hi => by simp [newA, hi]⟩
theorem Ary.set {i : Nat} (A : Ary Z h a ty n f) (W : Wr h h' a i v) (hi : i < n) : Ary Z h' a ty n (upd f i v) := by
  obtain ⟨c, A, r1, r2, r3⟩ := A
  refine ⟨_, A.same W, by rw [sz_set]; exact r1, r2, fun k hk => ?_⟩
  by_cases e : k = i
  · subst e
    simp [upd, Cell.setSlot, r1, hi]
  · have e' : i ≠ k := fun q => e q.symm
    simp only [upd, if_neg e, Cell.setSlot]
    rw [Array.getElem?_setIfInBounds_ne e']
    exact r3 k hk
theorem Goes.newP {aty : ArrayType} {z : Int32} {cap : Nat} (S : Sd p l e R s m args below meth c T h n0 cells slots) (B : Base p s m meth c Z y0 bytes0 maxL0 ret0) (w : (Cond.arrayClass (newarray.typeOf aty)).before a0 Z = true) (hd : decode bytes0 pc = .ok (.newarray aty, 2)) (hz : ¬ z < 0) (hcap : z.toNatClampNeg ≤ cap) (hb : cap * 8 ≤ 536870912) (hc : cells + 1 ≤ R.cells) (hl : slots + cap ≤ R.slots)
    (k : ∀ T' h' b, Sd p l e R s m args below meth c T' h' n0 (cells + 1) (slots + cap) → Ext h h' → b = h.size → n0 ≤ b → Ary Z h' b (newarray.typeOf aty) z.toNatClampNeg (fun _ => defaultValue (newarray.typeOf aty)) → Goes p.tables e below Φ T' (mkF m (pc + 2) Ls (.ref b :: rest))) :
    Goes p.tables e below Φ T (mkF m pc Ls (.int z :: rest)) := by
  have hle := S.le
  obtain ⟨locs, X, eT, N, hn⟩ := S
  obtain ⟨T', h', k', X', e', E, A, stp⟩ := RoadKit.newP X B.1 B.2.1 w eT (g := mkF m pc Ls (.int z :: rest)) rfl (B.d hd) rfl hz hcap hb hc hl
  exact Goes.go stp (k T' h' h.size ⟨locs, X', e', N, hn⟩ E rfl hle (Ary.new A hz))
theorem Goes.iaload (S : Sd p l e R s m args below meth c T h n0 cells slots) (B : Base p s m meth c Z y0 bytes0 maxL0 ret0) (A : Ary Z h a .int n f) (q0 : ¬ j < 0) (q1 : j.toNatClampNeg < n) (hd : decode bytes0 pc = .ok (.iaload, 1)) (hv : f j.toNatClampNeg = v) (k : Goes p.tables e below Φ T (mkF m (pc + 1) Ls (v :: rest))) : Goes p.tables e below Φ T (mkF m pc Ls (.int j :: .ref a :: rest)) := by
  obtain ⟨locs, X, eT, N, hn⟩ := S
  obtain ⟨cl, A, r1, r2, r3⟩ := A
  exact Goes.go (X.iaload B.1 (j := j) (v := v) (by rw [eT]; exact A.1) (State.isArrayOf_alike B.2.1.alike A.2.1) A.2.2 (by rw [r1]; exact fun z => z.elim q0 (Nat.not_le.mpr q1)) (by rw [r3 _ q1, hv]) (g := mkF m pc Ls (.int j :: .ref a :: rest)) rfl rfl (B.d hd)) k
theorem Goes.laload (S : Sd p l e R s m args below meth c T h n0 cells slots) (B : Base p s m meth c Z y0 bytes0 maxL0 ret0) (A : Ary Z h a .long n f) (q0 : ¬ j < 0) (q1 : j.toNatClampNeg < n) (hd : decode bytes0 pc = .ok (.laload, 1)) (hv : f j.toNatClampNeg = v) (k : Goes p.tables e below Φ T (mkF m (pc + 1) Ls (v :: rest))) : Goes p.tables e below Φ T (mkF m pc Ls (.int j :: .ref a :: rest)) := by
  obtain ⟨locs, X, eT, N, hn⟩ := S
  obtain ⟨cl, A, r1, r2, r3⟩ := A
  exact Goes.go (X.laload B.1 (j := j) (v := v) (by rw [eT]; exact A.1) (State.isArrayOf_alike B.2.1.alike A.2.1) A.2.2 (by rw [r1]; exact fun z => z.elim q0 (Nat.not_le.mpr q1)) (by rw [r3 _ q1, hv]) (g := mkF m pc Ls (.int j :: .ref a :: rest)) rfl rfl (B.d hd)) k
theorem Goes.baload (S : Sd p l e R s m args below meth c T h n0 cells slots) (B : Base p s m meth c Z y0 bytes0 maxL0 ret0) (A : Ary Z h a .byte n f) (q0 : ¬ j < 0) (q1 : j.toNatClampNeg < n) (hd : decode bytes0 pc = .ok (.baload, 1)) (hv : f j.toNatClampNeg = v) (k : Goes p.tables e below Φ T (mkF m (pc + 1) Ls (v :: rest))) : Goes p.tables e below Φ T (mkF m pc Ls (.int j :: .ref a :: rest)) := by
  obtain ⟨locs, X, eT, N, hn⟩ := S
  obtain ⟨cl, A, r1, r2, r3⟩ := A
  exact Goes.go (X.baloadBytes B.1 (j := j) (v := v) (by rw [eT]; exact A.1) (State.isArrayOf_alike B.2.1.alike A.2.1) A.2.2 (by rw [r1]; exact fun z => z.elim q0 (Nat.not_le.mpr q1)) (by rw [r3 _ q1, hv]) (g := mkF m pc Ls (.int j :: .ref a :: rest)) rfl rfl (B.d hd)) k
theorem Goes.zaload (S : Sd p l e R s m args below meth c T h n0 cells slots) (B : Base p s m meth c Z y0 bytes0 maxL0 ret0) (A : Ary Z h a .boolean n f) (q0 : ¬ j < 0) (q1 : j.toNatClampNeg < n) (hd : decode bytes0 pc = .ok (.baload, 1)) (hv : f j.toNatClampNeg = v) (k : Goes p.tables e below Φ T (mkF m (pc + 1) Ls (v :: rest))) : Goes p.tables e below Φ T (mkF m pc Ls (.int j :: .ref a :: rest)) := by
  obtain ⟨locs, X, eT, N, hn⟩ := S
  obtain ⟨cl, A, r1, r2, r3⟩ := A
  exact Goes.go (X.baloadBooleans B.1 (j := j) (v := v) (by rw [eT]; exact A.1) (State.isArrayOf_alike B.2.1.alike A.2.1) A.2.2 (by rw [r1]; exact fun z => z.elim q0 (Nat.not_le.mpr q1)) (by rw [r3 _ q1, hv]) (g := mkF m pc Ls (.int j :: .ref a :: rest)) rfl rfl (B.d hd)) k
theorem Goes.alen (S : Sd p l e R s m args below meth c T h n0 cells slots) (B : Base p s m meth c Z y0 bytes0 maxL0 ret0) (A : Ary Z h a ty n f) {z : Int32} (hz : n.toInt32 = z) (hd : decode bytes0 pc = .ok (.arraylength, 1)) (k : Goes p.tables e below Φ T (mkF m (pc + 1) Ls (.int z :: rest))) : Goes p.tables e below Φ T (mkF m pc Ls (.ref a :: rest)) := by
  obtain ⟨locs, X, eT, N, hn⟩ := S
  obtain ⟨cl, A, r1, r2, r3⟩ := A
  subst r1 hz
  exact Goes.go (X.arraylength B.1 (by rw [eT]; exact A.1) (State.isArrayOf_alike B.2.1.alike A.2.1) (g := mkF m pc Ls (.ref a :: rest)) rfl rfl (B.d hd)) k
theorem Goes.iastore {x : Int32} (S : Sd p l e R s m args below meth c T h n0 cells slots) (B : Base p s m meth c Z y0 bytes0 maxL0 ret0) (A : Ary Z h a .int n f) (q0 : ¬ j < 0) (q1 : j.toNatClampNeg < n) (ga : n0 ≤ a) (hd : decode bytes0 pc = .ok (.iastore, 1))
    (k : ∀ T' h', Sd p l e R s m args below meth c T' h' n0 cells slots → Wr h h' a j.toNatClampNeg (.int x) → Ary Z h' a .int n (upd f j.toNatClampNeg (.int x)) → Goes p.tables e below Φ T' (mkF m (pc + 1) Ls rest)) : Goes p.tables e below Φ T (mkF m pc Ls (.int x :: .int j :: .ref a :: rest)) := by
  obtain ⟨locs, X, eT, N, hn⟩ := S
  have A' := A
  obtain ⟨cl, A, r1, r2, r3⟩ := A
  obtain ⟨T', h', X', e', W, stp⟩ := RoadKit.stI X B.1 B.2.1 eT A (j := j) (by rw [r1]; exact fun z => z.elim q0 (Nat.not_le.mpr q1)) (g := mkF m pc Ls (.int x :: .int j :: .ref a :: rest)) rfl rfl (B.d hd)
  exact Goes.go stp (k T' h' ⟨_, X', e', Fr.snoc X' N ga, hn⟩ W (A'.set W q1))
theorem Goes.lastore {x : Int64} (S : Sd p l e R s m args below meth c T h n0 cells slots) (B : Base p s m meth c Z y0 bytes0 maxL0 ret0) (A : Ary Z h a .long n f) (q0 : ¬ j < 0) (q1 : j.toNatClampNeg < n) (ga : n0 ≤ a) (hd : decode bytes0 pc = .ok (.lastore, 1))
    (k : ∀ T' h', Sd p l e R s m args below meth c T' h' n0 cells slots → Wr h h' a j.toNatClampNeg (.long x) → Ary Z h' a .long n (upd f j.toNatClampNeg (.long x)) → Goes p.tables e below Φ T' (mkF m (pc + 1) Ls rest)) : Goes p.tables e below Φ T (mkF m pc Ls (.long x :: .int j :: .ref a :: rest)) := by
  obtain ⟨locs, X, eT, N, hn⟩ := S
  have A' := A
  obtain ⟨cl, A, r1, r2, r3⟩ := A
  obtain ⟨T', h', X', e', W, stp⟩ := RoadKit.stJ X B.1 B.2.1 eT A (j := j) (by rw [r1]; exact fun z => z.elim q0 (Nat.not_le.mpr q1)) (g := mkF m pc Ls (.long x :: .int j :: .ref a :: rest)) rfl rfl (B.d hd)
  exact Goes.go stp (k T' h' ⟨_, X', e', Fr.snoc X' N ga, hn⟩ W (A'.set W q1))
theorem Goes.bastore {x : Int32} (S : Sd p l e R s m args below meth c T h n0 cells slots) (B : Base p s m meth c Z y0 bytes0 maxL0 ret0) (A : Ary Z h a .byte n f) (q0 : ¬ j < 0) (q1 : j.toNatClampNeg < n) (ga : n0 ≤ a) (hd : decode bytes0 pc = .ok (.bastore, 1))
    (k : ∀ T' h', Sd p l e R s m args below meth c T' h' n0 cells slots → Wr h h' a j.toNatClampNeg (.int (nar .byte x)) → Ary Z h' a .byte n (upd f j.toNatClampNeg (.int (nar .byte x))) → Goes p.tables e below Φ T' (mkF m (pc + 1) Ls rest)) : Goes p.tables e below Φ T (mkF m pc Ls (.int x :: .int j :: .ref a :: rest)) := by
  obtain ⟨locs, X, eT, N, hn⟩ := S
  have A' := A
  obtain ⟨cl, A, r1, r2, r3⟩ := A
  obtain ⟨T', h', X', e', W, stp⟩ := RoadKit.stB X B.1 B.2.1 eT A (j := j) (by rw [r1]; exact fun z => z.elim q0 (Nat.not_le.mpr q1)) (g := mkF m pc Ls (.int x :: .int j :: .ref a :: rest)) rfl rfl (B.d hd)
  exact Goes.go stp (k T' h' ⟨_, X', e', Fr.snoc X' N ga, hn⟩ W (A'.set W q1))
theorem Goes.zastore {x : Int32} (S : Sd p l e R s m args below meth c T h n0 cells slots) (B : Base p s m meth c Z y0 bytes0 maxL0 ret0) (A : Ary Z h a .boolean n f) (q0 : ¬ j < 0) (q1 : j.toNatClampNeg < n) (ga : n0 ≤ a) (hd : decode bytes0 pc = .ok (.bastore, 1))
    (k : ∀ T' h', Sd p l e R s m args below meth c T' h' n0 cells slots → Wr h h' a j.toNatClampNeg (.int (nar .boolean x)) → Ary Z h' a .boolean n (upd f j.toNatClampNeg (.int (nar .boolean x))) → Goes p.tables e below Φ T' (mkF m (pc + 1) Ls rest)) : Goes p.tables e below Φ T (mkF m pc Ls (.int x :: .int j :: .ref a :: rest)) := by
  obtain ⟨locs, X, eT, N, hn⟩ := S
  have A' := A
  obtain ⟨cl, A, r1, r2, r3⟩ := A
  obtain ⟨T', h', X', e', W, stp⟩ := RoadKit.stZ X B.1 B.2.1 eT A (j := j) (by rw [r1]; exact fun z => z.elim q0 (Nat.not_le.mpr q1)) (g := mkF m pc Ls (.int x :: .int j :: .ref a :: rest)) rfl rfl (B.d hd)
  exact Goes.go stp (k T' h' ⟨_, X', e', Fr.snoc X' N ga, hn⟩ W (A'.set W q1))
end Arrays
end Lay
end Jvm.OwnKit
namespace Jvm.Pilot.@@N@@
open Jvm Jvm.ClassFile Sem Op Lib Jvm.Free Jvm.Stand Jvm.LawKit Jvm.RoadKit Jvm.OwnKit Bundle Jvm.Pilot.@@N@@.Jvm.D
theorem w0 {Z : State} {a0 : Array Value} (hw : ∀ d ∈ tables_1, d.before a0 Z = true) : ((Jvm.Cond.classLink "com/example/cardwarden/cardwarden/MemoryBytesFiguresPinLaw" (7 : Nat) "com/example/cardwarden/cardwarden/MemoryBytes") : Jvm.Cond).before a0 Z = true := hw _ (List.mem_of_getElem? (i := 0) rfl)
theorem w1 {Z : State} {a0 : Array Value} (hw : ∀ d ∈ tables_1, d.before a0 Z = true) : ((Jvm.Cond.instantiable "com/example/cardwarden/cardwarden/MemoryBytes" (3 : Nat)) : Jvm.Cond).before a0 Z = true := hw _ (List.mem_of_getElem? (i := 1) rfl)
theorem w2 {Z : State} {a0 : Array Value} (hw : ∀ d ∈ tables_1, d.before a0 Z = true) : ((Jvm.Cond.initialized "com/example/cardwarden/cardwarden/MemoryBytes") : Jvm.Cond).before a0 Z = true := hw _ (List.mem_of_getElem? (i := 2) rfl)
theorem w3 {Z : State} {a0 : Array Value} (hw : ∀ d ∈ tables_1, d.before a0 Z = true) : ((Jvm.Cond.methodLink "com/example/cardwarden/cardwarden/MemoryBytesFiguresPinLaw" (9 : Nat) ({ cls := "com/example/cardwarden/cardwarden/MemoryBytes", name := "<init>", desc := "(JJJ)V" } : Jvm.MethodName)) : Jvm.Cond).before a0 Z = true := hw _ (List.mem_of_getElem? (i := 3) rfl)
theorem w4 {Z : State} {a0 : Array Value} (hw : ∀ d ∈ tables_1, d.before a0 Z = true) : ((Jvm.Cond.instanceMethod ({ cls := "com/example/cardwarden/cardwarden/MemoryBytes", name := "<init>", desc := "(JJJ)V" } : Jvm.MethodName)) : Jvm.Cond).before a0 Z = true := hw _ (List.mem_of_getElem? (i := 4) rfl)
theorem w5 {Z : State} {a0 : Array Value} (hw : ∀ d ∈ tables_1, d.before a0 Z = true) : ((Jvm.Cond.code ({ cls := "com/example/cardwarden/cardwarden/MemoryBytes", name := "<init>", desc := "(JJJ)V" } : Jvm.MethodName) prog_34_method_1_code (7 : Nat) (Option.none : Option Jvm.ClassFile.FieldType)) : Jvm.Cond).before a0 Z = true := hw _ (List.mem_of_getElem? (i := 5) rfl)
theorem w6 {Z : State} {a0 : Array Value} (hw : ∀ d ∈ tables_1, d.before a0 Z = true) : ((Jvm.Cond.methodLink "com/example/cardwarden/cardwarden/MemoryBytes" (1 : Nat) ({ cls := "java/lang/Record", name := "<init>", desc := "()V" } : Jvm.MethodName)) : Jvm.Cond).before a0 Z = true := hw _ (List.mem_of_getElem? (i := 6) rfl)
theorem w7 {Z : State} {a0 : Array Value} (hw : ∀ d ∈ tables_1, d.before a0 Z = true) : ((Jvm.Cond.instanceMethod ({ cls := "java/lang/Record", name := "<init>", desc := "()V" } : Jvm.MethodName)) : Jvm.Cond).before a0 Z = true := hw _ (List.mem_of_getElem? (i := 7) rfl)
theorem w9 {Z : State} {a0 : Array Value} (hw : ∀ d ∈ tables_1, d.before a0 Z = true) : ((Jvm.Cond.initialized "java/lang/Record") : Jvm.Cond).before a0 Z = true := hw _ (List.mem_of_getElem? (i := 9) rfl)
theorem w10 {Z : State} {a0 : Array Value} (hw : ∀ d ∈ tables_1, d.before a0 Z = true) : ((Jvm.Cond.code ({ cls := "java/lang/Record", name := "<init>", desc := "()V" } : Jvm.MethodName) jdk_30_method_1_code (1 : Nat) (Option.none : Option Jvm.ClassFile.FieldType)) : Jvm.Cond).before a0 Z = true := hw _ (List.mem_of_getElem? (i := 10) rfl)
theorem w11 {Z : State} {a0 : Array Value} (hw : ∀ d ∈ tables_1, d.before a0 Z = true) : ((Jvm.Cond.methodLink "java/lang/Record" (1 : Nat) ({ cls := "java/lang/Object", name := "<init>", desc := "()V" } : Jvm.MethodName)) : Jvm.Cond).before a0 Z = true := hw _ (List.mem_of_getElem? (i := 11) rfl)
theorem w12 {Z : State} {a0 : Array Value} (hw : ∀ d ∈ tables_1, d.before a0 Z = true) : ((Jvm.Cond.instanceMethod ({ cls := "java/lang/Object", name := "<init>", desc := "()V" } : Jvm.MethodName)) : Jvm.Cond).before a0 Z = true := hw _ (List.mem_of_getElem? (i := 12) rfl)
theorem w13 {Z : State} {a0 : Array Value} (hw : ∀ d ∈ tables_1, d.before a0 Z = true) : ((Jvm.Cond.code ({ cls := "java/lang/Object", name := "<init>", desc := "()V" } : Jvm.MethodName) object_method_1_code (1 : Nat) (Option.none : Option Jvm.ClassFile.FieldType)) : Jvm.Cond).before a0 Z = true := hw _ (List.mem_of_getElem? (i := 13) rfl)
theorem w14 {Z : State} {a0 : Array Value} (hw : ∀ d ∈ tables_1, d.before a0 Z = true) : ((Jvm.Cond.fieldLink "com/example/cardwarden/cardwarden/MemoryBytes" (7 : Nat) "com/example/cardwarden/cardwarden/MemoryBytes" "persistent" "J") : Jvm.Cond).before a0 Z = true := hw _ (List.mem_of_getElem? (i := 14) rfl)
theorem w15 {Z : State} {a0 : Array Value} (hw : ∀ d ∈ tables_1, d.before a0 Z = true) : ((Jvm.Cond.laysFinal "com/example/cardwarden/cardwarden/MemoryBytes" "com/example/cardwarden/cardwarden/MemoryBytes" "persistent" "J") : Jvm.Cond).before a0 Z = true := hw _ (List.mem_of_getElem? (i := 15) rfl)
theorem w16 {Z : State} {a0 : Array Value} (hw : ∀ d ∈ tables_1, d.before a0 Z = true) : ((Jvm.Cond.fieldLink "com/example/cardwarden/cardwarden/MemoryBytes" (13 : Nat) "com/example/cardwarden/cardwarden/MemoryBytes" "transientBytes" "J") : Jvm.Cond).before a0 Z = true := hw _ (List.mem_of_getElem? (i := 16) rfl)
theorem w17 {Z : State} {a0 : Array Value} (hw : ∀ d ∈ tables_1, d.before a0 Z = true) : ((Jvm.Cond.laysFinal "com/example/cardwarden/cardwarden/MemoryBytes" "com/example/cardwarden/cardwarden/MemoryBytes" "transientBytes" "J") : Jvm.Cond).before a0 Z = true := hw _ (List.mem_of_getElem? (i := 17) rfl)
theorem w18 {Z : State} {a0 : Array Value} (hw : ∀ d ∈ tables_1, d.before a0 Z = true) : ((Jvm.Cond.fieldLink "com/example/cardwarden/cardwarden/MemoryBytes" (16 : Nat) "com/example/cardwarden/cardwarden/MemoryBytes" "commitBuffer" "J") : Jvm.Cond).before a0 Z = true := hw _ (List.mem_of_getElem? (i := 18) rfl)
theorem w19 {Z : State} {a0 : Array Value} (hw : ∀ d ∈ tables_1, d.before a0 Z = true) : ((Jvm.Cond.laysFinal "com/example/cardwarden/cardwarden/MemoryBytes" "com/example/cardwarden/cardwarden/MemoryBytes" "commitBuffer" "J") : Jvm.Cond).before a0 Z = true := hw _ (List.mem_of_getElem? (i := 19) rfl)
theorem w20 {Z : State} {a0 : Array Value} (hw : ∀ d ∈ tables_1, d.before a0 Z = true) : ((Jvm.Cond.methodLink "com/example/cardwarden/cardwarden/MemoryBytesFiguresPinLaw" (12 : Nat) ({ cls := "com/example/cardwarden/cardwarden/MemoryBytes", name := "figures", desc := "()[J" } : Jvm.MethodName)) : Jvm.Cond).before a0 Z = true := hw _ (List.mem_of_getElem? (i := 20) rfl)
theorem w21 {Z : State} {a0 : Array Value} (hw : ∀ d ∈ tables_1, d.before a0 Z = true) : ((Jvm.Cond.declares ({ cls := "com/example/cardwarden/cardwarden/MemoryBytes", name := "figures", desc := "()[J" } : Jvm.MethodName)) : Jvm.Cond).before a0 Z = true := hw _ (List.mem_of_getElem? (i := 21) rfl)
theorem w22 {Z : State} {a0 : Array Value} (hw : ∀ d ∈ tables_1, d.before a0 Z = true) : ((Jvm.Cond.instanceMethod ({ cls := "com/example/cardwarden/cardwarden/MemoryBytes", name := "figures", desc := "()[J" } : Jvm.MethodName)) : Jvm.Cond).before a0 Z = true := hw _ (List.mem_of_getElem? (i := 22) rfl)
theorem w23 {Z : State} {a0 : Array Value} (hw : ∀ d ∈ tables_1, d.before a0 Z = true) : ((Jvm.Cond.selects "com/example/cardwarden/cardwarden/MemoryBytes" ({ cls := "com/example/cardwarden/cardwarden/MemoryBytes", name := "figures", desc := "()[J" } : Jvm.MethodName) ({ cls := "com/example/cardwarden/cardwarden/MemoryBytes", name := "figures", desc := "()[J" } : Jvm.MethodName)) : Jvm.Cond).before a0 Z = true := hw _ (List.mem_of_getElem? (i := 23) rfl)
theorem w24 {Z : State} {a0 : Array Value} (hw : ∀ d ∈ tables_1, d.before a0 Z = true) : ((Jvm.Cond.code ({ cls := "com/example/cardwarden/cardwarden/MemoryBytes", name := "figures", desc := "()[J" } : Jvm.MethodName) prog_34_method_5_code (1 : Nat) (Option.some (Jvm.ClassFile.FieldType.array Jvm.ClassFile.FieldType.long))) : Jvm.Cond).before a0 Z = true := hw _ (List.mem_of_getElem? (i := 24) rfl)
theorem w25 {Z : State} {a0 : Array Value} (hw : ∀ d ∈ tables_1, d.before a0 Z = true) : ((Jvm.Cond.arrayClass Jvm.ClassFile.FieldType.long) : Jvm.Cond).before a0 Z = true := hw _ (List.mem_of_getElem? (i := 25) rfl)
theorem w26 {Z : State} {a0 : Array Value} (hw : ∀ d ∈ tables_1, d.before a0 Z = true) : ((Jvm.Cond.constantLong "com/example/cardwarden/cardwarden/MemoryBytesFiguresPinLaw" (16 : Nat) (-1 : Int64)) : Jvm.Cond).before a0 Z = true := hw _ (List.mem_of_getElem? (i := 26) rfl)
theorem w27 {Z : State} {a0 : Array Value} (hw : ∀ d ∈ tables_1, d.before a0 Z = true) : ((Jvm.Cond.methodLink "com/example/cardwarden/cardwarden/MemoryBytesFiguresPinLaw" (18 : Nat) ({ cls := "com/example/cardwarden/cardwarden/MemoryBytes", name := "of", desc := "([J)Lcom/example/cardwarden/cardwarden/MemoryBytes;" } : Jvm.MethodName)) : Jvm.Cond).before a0 Z = true := hw _ (List.mem_of_getElem? (i := 27) rfl)
theorem w28 {Z : State} {a0 : Array Value} (hw : ∀ d ∈ tables_1, d.before a0 Z = true) : ((Jvm.Cond.static ({ cls := "com/example/cardwarden/cardwarden/MemoryBytes", name := "of", desc := "([J)Lcom/example/cardwarden/cardwarden/MemoryBytes;" } : Jvm.MethodName)) : Jvm.Cond).before a0 Z = true := hw _ (List.mem_of_getElem? (i := 28) rfl)
theorem w29 {Z : State} {a0 : Array Value} (hw : ∀ d ∈ tables_1, d.before a0 Z = true) : ((Jvm.Cond.code ({ cls := "com/example/cardwarden/cardwarden/MemoryBytes", name := "of", desc := "([J)Lcom/example/cardwarden/cardwarden/MemoryBytes;" } : Jvm.MethodName) prog_34_method_2_code (1 : Nat) (Option.some (Jvm.ClassFile.FieldType.object "com/example/cardwarden/cardwarden/MemoryBytes"))) : Jvm.Cond).before a0 Z = true := hw _ (List.mem_of_getElem? (i := 29) rfl)
theorem w30 {Z : State} {a0 : Array Value} (hw : ∀ d ∈ tables_1, d.before a0 Z = true) : ((Jvm.Cond.classLink "com/example/cardwarden/cardwarden/MemoryBytes" (8 : Nat) "com/example/cardwarden/cardwarden/MemoryBytes") : Jvm.Cond).before a0 Z = true := hw _ (List.mem_of_getElem? (i := 30) rfl)
theorem w31 {Z : State} {a0 : Array Value} (hw : ∀ d ∈ tables_1, d.before a0 Z = true) : ((Jvm.Cond.methodLink "com/example/cardwarden/cardwarden/MemoryBytes" (19 : Nat) ({ cls := "com/example/cardwarden/cardwarden/MemoryBytes", name := "<init>", desc := "(JJJ)V" } : Jvm.MethodName)) : Jvm.Cond).before a0 Z = true := hw _ (List.mem_of_getElem? (i := 31) rfl)
theorem w32 {Z : State} {a0 : Array Value} (hw : ∀ d ∈ tables_1, d.before a0 Z = true) : ((Jvm.Cond.methodLink "com/example/cardwarden/cardwarden/MemoryBytesFiguresPinLaw" (22 : Nat) ({ cls := "com/example/cardwarden/cardwarden/MemoryBytes", name := "persistent", desc := "()J" } : Jvm.MethodName)) : Jvm.Cond).before a0 Z = true := hw _ (List.mem_of_getElem? (i := 32) rfl)
theorem w33 {Z : State} {a0 : Array Value} (hw : ∀ d ∈ tables_1, d.before a0 Z = true) : ((Jvm.Cond.declares ({ cls := "com/example/cardwarden/cardwarden/MemoryBytes", name := "persistent", desc := "()J" } : Jvm.MethodName)) : Jvm.Cond).before a0 Z = true := hw _ (List.mem_of_getElem? (i := 33) rfl)
theorem w34 {Z : State} {a0 : Array Value} (hw : ∀ d ∈ tables_1, d.before a0 Z = true) : ((Jvm.Cond.instanceMethod ({ cls := "com/example/cardwarden/cardwarden/MemoryBytes", name := "persistent", desc := "()J" } : Jvm.MethodName)) : Jvm.Cond).before a0 Z = true := hw _ (List.mem_of_getElem? (i := 34) rfl)
theorem w35 {Z : State} {a0 : Array Value} (hw : ∀ d ∈ tables_1, d.before a0 Z = true) : ((Jvm.Cond.selects "com/example/cardwarden/cardwarden/MemoryBytes" ({ cls := "com/example/cardwarden/cardwarden/MemoryBytes", name := "persistent", desc := "()J" } : Jvm.MethodName) ({ cls := "com/example/cardwarden/cardwarden/MemoryBytes", name := "persistent", desc := "()J" } : Jvm.MethodName)) : Jvm.Cond).before a0 Z = true := hw _ (List.mem_of_getElem? (i := 35) rfl)
theorem w36 {Z : State} {a0 : Array Value} (hw : ∀ d ∈ tables_1, d.before a0 Z = true) : ((Jvm.Cond.code ({ cls := "com/example/cardwarden/cardwarden/MemoryBytes", name := "persistent", desc := "()J" } : Jvm.MethodName) prog_34_method_13_code (1 : Nat) (Option.some Jvm.ClassFile.FieldType.long)) : Jvm.Cond).before a0 Z = true := hw _ (List.mem_of_getElem? (i := 36) rfl)
theorem w37 {Z : State} {a0 : Array Value} (hw : ∀ d ∈ tables_1, d.before a0 Z = true) : ((Jvm.Cond.methodLink "com/example/cardwarden/cardwarden/MemoryBytesFiguresPinLaw" (26 : Nat) ({ cls := "com/example/cardwarden/cardwarden/MemoryBytes", name := "transientBytes", desc := "()J" } : Jvm.MethodName)) : Jvm.Cond).before a0 Z = true := hw _ (List.mem_of_getElem? (i := 37) rfl)
theorem w38 {Z : State} {a0 : Array Value} (hw : ∀ d ∈ tables_1, d.before a0 Z = true) : ((Jvm.Cond.declares ({ cls := "com/example/cardwarden/cardwarden/MemoryBytes", name := "transientBytes", desc := "()J" } : Jvm.MethodName)) : Jvm.Cond).before a0 Z = true := hw _ (List.mem_of_getElem? (i := 38) rfl)
theorem w39 {Z : State} {a0 : Array Value} (hw : ∀ d ∈ tables_1, d.before a0 Z = true) : ((Jvm.Cond.instanceMethod ({ cls := "com/example/cardwarden/cardwarden/MemoryBytes", name := "transientBytes", desc := "()J" } : Jvm.MethodName)) : Jvm.Cond).before a0 Z = true := hw _ (List.mem_of_getElem? (i := 39) rfl)
theorem w40 {Z : State} {a0 : Array Value} (hw : ∀ d ∈ tables_1, d.before a0 Z = true) : ((Jvm.Cond.selects "com/example/cardwarden/cardwarden/MemoryBytes" ({ cls := "com/example/cardwarden/cardwarden/MemoryBytes", name := "transientBytes", desc := "()J" } : Jvm.MethodName) ({ cls := "com/example/cardwarden/cardwarden/MemoryBytes", name := "transientBytes", desc := "()J" } : Jvm.MethodName)) : Jvm.Cond).before a0 Z = true := hw _ (List.mem_of_getElem? (i := 40) rfl)
theorem w41 {Z : State} {a0 : Array Value} (hw : ∀ d ∈ tables_1, d.before a0 Z = true) : ((Jvm.Cond.code ({ cls := "com/example/cardwarden/cardwarden/MemoryBytes", name := "transientBytes", desc := "()J" } : Jvm.MethodName) prog_34_method_14_code (1 : Nat) (Option.some Jvm.ClassFile.FieldType.long)) : Jvm.Cond).before a0 Z = true := hw _ (List.mem_of_getElem? (i := 41) rfl)
theorem w42 {Z : State} {a0 : Array Value} (hw : ∀ d ∈ tables_1, d.before a0 Z = true) : ((Jvm.Cond.methodLink "com/example/cardwarden/cardwarden/MemoryBytesFiguresPinLaw" (29 : Nat) ({ cls := "com/example/cardwarden/cardwarden/MemoryBytes", name := "commitBuffer", desc := "()J" } : Jvm.MethodName)) : Jvm.Cond).before a0 Z = true := hw _ (List.mem_of_getElem? (i := 42) rfl)
theorem w43 {Z : State} {a0 : Array Value} (hw : ∀ d ∈ tables_1, d.before a0 Z = true) : ((Jvm.Cond.declares ({ cls := "com/example/cardwarden/cardwarden/MemoryBytes", name := "commitBuffer", desc := "()J" } : Jvm.MethodName)) : Jvm.Cond).before a0 Z = true := hw _ (List.mem_of_getElem? (i := 43) rfl)
theorem w44 {Z : State} {a0 : Array Value} (hw : ∀ d ∈ tables_1, d.before a0 Z = true) : ((Jvm.Cond.instanceMethod ({ cls := "com/example/cardwarden/cardwarden/MemoryBytes", name := "commitBuffer", desc := "()J" } : Jvm.MethodName)) : Jvm.Cond).before a0 Z = true := hw _ (List.mem_of_getElem? (i := 44) rfl)
theorem w45 {Z : State} {a0 : Array Value} (hw : ∀ d ∈ tables_1, d.before a0 Z = true) : ((Jvm.Cond.selects "com/example/cardwarden/cardwarden/MemoryBytes" ({ cls := "com/example/cardwarden/cardwarden/MemoryBytes", name := "commitBuffer", desc := "()J" } : Jvm.MethodName) ({ cls := "com/example/cardwarden/cardwarden/MemoryBytes", name := "commitBuffer", desc := "()J" } : Jvm.MethodName)) : Jvm.Cond).before a0 Z = true := hw _ (List.mem_of_getElem? (i := 45) rfl)
theorem w46 {Z : State} {a0 : Array Value} (hw : ∀ d ∈ tables_1, d.before a0 Z = true) : ((Jvm.Cond.code ({ cls := "com/example/cardwarden/cardwarden/MemoryBytes", name := "commitBuffer", desc := "()J" } : Jvm.MethodName) prog_34_method_15_code (1 : Nat) (Option.some Jvm.ClassFile.FieldType.long)) : Jvm.Cond).before a0 Z = true := hw _ (List.mem_of_getElem? (i := 46) rfl)
theorem d_jdk_30_method_1_0 : decode jdk_30_method_1_code 0 = .ok (.aload_n 0, 1) := by decide +kernel
theorem d_jdk_30_method_1_1 : decode jdk_30_method_1_code 1 = .ok (.invokespecial 1, 3) := by decide +kernel
theorem d_jdk_30_method_1_4 : decode jdk_30_method_1_code 4 = .ok (.return_, 1) := by decide +kernel
theorem d_prog_34_method_1_0 : decode prog_34_method_1_code 0 = .ok (.aload_n 0, 1) := by decide +kernel
theorem d_prog_34_method_1_1 : decode prog_34_method_1_code 1 = .ok (.invokespecial 1, 3) := by decide +kernel
theorem d_prog_34_method_1_4 : decode prog_34_method_1_code 4 = .ok (.aload_n 0, 1) := by decide +kernel
theorem d_prog_34_method_1_5 : decode prog_34_method_1_code 5 = .ok (.lload_n 1, 1) := by decide +kernel
theorem d_prog_34_method_1_6 : decode prog_34_method_1_code 6 = .ok (.putfield 7, 3) := by decide +kernel
theorem d_prog_34_method_1_9 : decode prog_34_method_1_code 9 = .ok (.aload_n 0, 1) := by decide +kernel
theorem d_prog_34_method_1_10 : decode prog_34_method_1_code 10 = .ok (.lload_n 3, 1) := by decide +kernel
theorem d_prog_34_method_1_11 : decode prog_34_method_1_code 11 = .ok (.putfield 13, 3) := by decide +kernel
theorem d_prog_34_method_1_14 : decode prog_34_method_1_code 14 = .ok (.aload_n 0, 1) := by decide +kernel
theorem d_prog_34_method_1_15 : decode prog_34_method_1_code 15 = .ok (.lload 5, 2) := by decide +kernel
theorem d_prog_34_method_1_17 : decode prog_34_method_1_code 17 = .ok (.putfield 16, 3) := by decide +kernel
theorem d_prog_34_method_1_20 : decode prog_34_method_1_code 20 = .ok (.return_, 1) := by decide +kernel
theorem d_prog_34_method_5_0 : decode prog_34_method_5_code 0 = .ok (.iconst 3, 1) := by decide +kernel
theorem d_prog_34_method_5_1 : decode prog_34_method_5_code 1 = .ok (.newarray .long, 2) := by decide +kernel
theorem d_prog_34_method_5_3 : decode prog_34_method_5_code 3 = .ok (.dup, 1) := by decide +kernel
theorem d_prog_34_method_5_4 : decode prog_34_method_5_code 4 = .ok (.iconst 0, 1) := by decide +kernel
theorem d_prog_34_method_5_5 : decode prog_34_method_5_code 5 = .ok (.aload_n 0, 1) := by decide +kernel
theorem d_prog_34_method_5_6 : decode prog_34_method_5_code 6 = .ok (.getfield 7, 3) := by decide +kernel
theorem d_prog_34_method_5_9 : decode prog_34_method_5_code 9 = .ok (.lastore, 1) := by decide +kernel
theorem d_prog_34_method_5_10 : decode prog_34_method_5_code 10 = .ok (.dup, 1) := by decide +kernel
theorem d_prog_34_method_5_11 : decode prog_34_method_5_code 11 = .ok (.iconst 1, 1) := by decide +kernel
theorem d_prog_34_method_5_12 : decode prog_34_method_5_code 12 = .ok (.aload_n 0, 1) := by decide +kernel
theorem d_prog_34_method_5_13 : decode prog_34_method_5_code 13 = .ok (.getfield 13, 3) := by decide +kernel
theorem d_prog_34_method_5_16 : decode prog_34_method_5_code 16 = .ok (.lastore, 1) := by decide +kernel
theorem d_prog_34_method_5_17 : decode prog_34_method_5_code 17 = .ok (.dup, 1) := by decide +kernel
theorem d_prog_34_method_5_18 : decode prog_34_method_5_code 18 = .ok (.iconst 2, 1) := by decide +kernel
theorem d_prog_34_method_5_19 : decode prog_34_method_5_code 19 = .ok (.aload_n 0, 1) := by decide +kernel
theorem d_prog_34_method_5_20 : decode prog_34_method_5_code 20 = .ok (.getfield 16, 3) := by decide +kernel
theorem d_prog_34_method_5_23 : decode prog_34_method_5_code 23 = .ok (.lastore, 1) := by decide +kernel
theorem d_prog_34_method_5_24 : decode prog_34_method_5_code 24 = .ok (.areturn, 1) := by decide +kernel
theorem d_prog_34_method_2_0 : decode prog_34_method_2_code 0 = .ok (.new 8, 3) := by decide +kernel
theorem d_prog_34_method_2_3 : decode prog_34_method_2_code 3 = .ok (.dup, 1) := by decide +kernel
theorem d_prog_34_method_2_4 : decode prog_34_method_2_code 4 = .ok (.aload_n 0, 1) := by decide +kernel
theorem d_prog_34_method_2_5 : decode prog_34_method_2_code 5 = .ok (.iconst 0, 1) := by decide +kernel
theorem d_prog_34_method_2_6 : decode prog_34_method_2_code 6 = .ok (.laload, 1) := by decide +kernel
theorem d_prog_34_method_2_7 : decode prog_34_method_2_code 7 = .ok (.aload_n 0, 1) := by decide +kernel
theorem d_prog_34_method_2_8 : decode prog_34_method_2_code 8 = .ok (.iconst 1, 1) := by decide +kernel
theorem d_prog_34_method_2_9 : decode prog_34_method_2_code 9 = .ok (.laload, 1) := by decide +kernel
theorem d_prog_34_method_2_10 : decode prog_34_method_2_code 10 = .ok (.aload_n 0, 1) := by decide +kernel
theorem d_prog_34_method_2_11 : decode prog_34_method_2_code 11 = .ok (.iconst 2, 1) := by decide +kernel
theorem d_prog_34_method_2_12 : decode prog_34_method_2_code 12 = .ok (.laload, 1) := by decide +kernel
theorem d_prog_34_method_2_13 : decode prog_34_method_2_code 13 = .ok (.invokespecial 19, 3) := by decide +kernel
theorem d_prog_34_method_2_16 : decode prog_34_method_2_code 16 = .ok (.areturn, 1) := by decide +kernel
theorem d_prog_34_method_13_0 : decode prog_34_method_13_code 0 = .ok (.aload_n 0, 1) := by decide +kernel
theorem d_prog_34_method_13_1 : decode prog_34_method_13_code 1 = .ok (.getfield 7, 3) := by decide +kernel
theorem d_prog_34_method_13_4 : decode prog_34_method_13_code 4 = .ok (.lreturn, 1) := by decide +kernel
theorem d_prog_34_method_14_0 : decode prog_34_method_14_code 0 = .ok (.aload_n 0, 1) := by decide +kernel
theorem d_prog_34_method_14_1 : decode prog_34_method_14_code 1 = .ok (.getfield 13, 3) := by decide +kernel
theorem d_prog_34_method_14_4 : decode prog_34_method_14_code 4 = .ok (.lreturn, 1) := by decide +kernel
theorem d_prog_34_method_15_0 : decode prog_34_method_15_code 0 = .ok (.aload_n 0, 1) := by decide +kernel
theorem d_prog_34_method_15_1 : decode prog_34_method_15_code 1 = .ok (.getfield 16, 3) := by decide +kernel
theorem d_prog_34_method_15_4 : decode prog_34_method_15_code 4 = .ok (.lreturn, 1) := by decide +kernel
theorem pd_0 : parseMethodDescriptor "()V" = some ⟨[], none⟩ := by decide +kernel
theorem pd_1 : parseMethodDescriptor "(JJJ)V" = some ⟨[.long, .long, .long], none⟩ := by decide +kernel
theorem pd_2 : parseMethodDescriptor "()[J" = some ⟨[], some (.array .long)⟩ := by decide +kernel
theorem pd_3 : parseMethodDescriptor "([J)Lcom/example/cardwarden/cardwarden/MemoryBytes;" = some ⟨[(.array .long)], some (.object "com/example/cardwarden/cardwarden/MemoryBytes")⟩ := by decide +kernel
theorem pd_4 : parseMethodDescriptor "()J" = some ⟨[], some .long⟩ := by decide +kernel
theorem pn_0 : plainName "java/lang/Record" = true := by first | (simp [plainName, overriddenIn]; done) | decide +kernel
theorem pn_1 : plainName "com/example/cardwarden/cardwarden/MemoryBytes" = true := by first | (simp [plainName, overriddenIn]; done) | decide +kernel
theorem pn_2 : plainName "com/example/cardwarden/cardwarden/MemoryBytesFiguresPinLaw" = true := by first | (simp [plainName, overriddenIn]; done) | decide +kernel
theorem ef_rmR (m : MethodId) (a0 : Addr) : entryFrame m #[(.ref a0)] 1 = mkF m 0 #[.val (.ref a0)] [] := by first | (simp [entryFrame, mkF, argsToLocals, Value.category]; done) | rfl
def Q_rmR (Z : State) (a0 : Addr) (h0 : Heap) (n0 : Nat) (v : Option Value) (h : Heap) : Prop := v = none ∧ h = h0
set_option maxRecDepth 65536 in
set_option maxHeartbeats 40000000 in
theorem rmR (l : Launch) (Z : State) (aw : Array Value) (hw : ∀ d ∈ tables_1, d.before aw Z = true) (a0 : Addr) (h0 : Heap) (n0 : Nat) :
    Con l Z (⟨"java/lang/Record", "<init>", "()V"⟩ : MethodName) jdk_30_method_1_code 1 none ({ frames := 1, cells := 0, slots := 0, locals := 12 } : Room) #[(.ref a0)] h0 n0 (Q_rmR Z a0 h0 n0) := by
  refine Con.body (plainFor_of_name pn_0) ?_
  intro p e s m below meth c T B S
  refine Goes.cast (ef_rmR m a0) ?_
  refine Goes.go (fun _ => XS.aloadN S.here B.x rfl (B.d d_jdk_30_method_1_0) rfl rfl) ?_
  show Goes _ _ _ _ T (mkF m 1 #[.val (.ref a0)] [(.ref a0)])
  refine Goes.initO (W := 0) S B (w11 hw) (w12 hw) (w13 hw) d_jdk_30_method_1_1 rfl (by decide) (Nat.le_of_eq rfl) (by decide) ?_
  intro T S
  show Goes _ _ _ _ T (mkF m 4 #[.val (.ref a0)] [])
  refine Goes.retV S B d_jdk_30_method_1_4 (by decide) (by decide) ?_
  exact ⟨(by first | rfl | (rw [bi_pos (by assumption)]; rfl) | (rw [bi_neg (by assumption)]; rfl) | (rw [nar_bi]; exact congrArg (fun z => some (Value.int z)) (bi_congr (by simp_all))) | (simp_all [bi, nar]; done)), rfl⟩
theorem ef_rmI (m : MethodId) (a0 : Addr) (q1 : Int64) (q2 : Int64) (q3 : Int64) : entryFrame m #[(.ref a0), (.long q1), (.long q2), (.long q3)] 7 = mkF m 0 #[.val (.ref a0), .val (.long q1), .second, .val (.long q2), .second, .val (.long q3), .second] [] := by first | (simp [entryFrame, mkF, argsToLocals, Value.category]; done) | rfl
def Q_rmI (Z : State) (a0 : Addr) (q1 : Int64) (q2 : Int64) (q3 : Int64) (h0 : Heap) (n0 : Nat) (v : Option Value) (h : Heap) : Prop := v = none ∧ Keep h0 h [a0] ∧ Exa Z h a0 "com/example/cardwarden/cardwarden/MemoryBytes" ∧ Fld Z h a0 "com/example/cardwarden/cardwarden/MemoryBytes" "persistent" "J" (.long q1) ∧ Fld Z h a0 "com/example/cardwarden/cardwarden/MemoryBytes" "transientBytes" "J" (.long q2) ∧ Fld Z h a0 "com/example/cardwarden/cardwarden/MemoryBytes" "commitBuffer" "J" (.long q3)
set_option maxRecDepth 65536 in
set_option maxHeartbeats 40000000 in
theorem rmI (l : Launch) (Z : State) (aw : Array Value) (hw : ∀ d ∈ tables_1, d.before aw Z = true) (a0 : Addr) (q1 : Int64) (q2 : Int64) (q3 : Int64) (h0 : Heap) (n0 : Nat) (E_a0 : Exa Z h0 a0 "com/example/cardwarden/cardwarden/MemoryBytes") (F_a0_persistent : Fld Z h0 a0 "com/example/cardwarden/cardwarden/MemoryBytes" "persistent" "J" (.long (0 : Int64))) (F_a0_transientBytes : Fld Z h0 a0 "com/example/cardwarden/cardwarden/MemoryBytes" "transientBytes" "J" (.long (0 : Int64))) (F_a0_commitBuffer : Fld Z h0 a0 "com/example/cardwarden/cardwarden/MemoryBytes" "commitBuffer" "J" (.long (0 : Int64))) (g_a0 : n0 ≤ a0) :
    Con l Z (⟨"com/example/cardwarden/cardwarden/MemoryBytes", "<init>", "(JJJ)V"⟩ : MethodName) prog_34_method_1_code 7 none ({ frames := 2, cells := 0, slots := 0, locals := 24 } : Room) #[(.ref a0), (.long q1), (.long q2), (.long q3)] h0 n0 (Q_rmI Z a0 q1 q2 q3 h0 n0) := by
  refine Con.body (plainFor_of_name pn_1) ?_
  intro p e s m below meth c T B S
  refine Goes.cast (ef_rmI m a0 q1 q2 q3) ?_
  have K : Keep h0 h0 [a0] := Keep.refl _ _
  refine Goes.go (fun _ => XS.aloadN S.here B.x rfl (B.d d_prog_34_method_1_0) rfl rfl) ?_
  show Goes _ _ _ _ T (mkF m 1 #[.val (.ref a0), .val (.long q1), .second, .val (.long q2), .second, .val (.long q3), .second] [(.ref a0)])
  refine Goes.callI (argsL := []) (rest := []) (W := 0) S B (rmR l Z aw hw a0 _ n0) (w6 hw) (w7 hw) (w9 hw) (w10 hw) (by decide) rfl (by decide) (by decide) (by decide) (by decide) rfl (lenOf pd_0 rfl) rfl (Nat.le_of_eq rfl) d_prog_34_method_1_1 ?_
  intro v T h S hQ
  obtain ⟨rfl, hh⟩ := hQ
  replace hh := hh.symm
  subst hh
  show Goes _ _ _ _ T (mkF m 4 #[.val (.ref a0), .val (.long q1), .second, .val (.long q2), .second, .val (.long q3), .second] [])
  refine Goes.go (fun _ => XS.aloadN S.here B.x rfl (B.d d_prog_34_method_1_4) rfl rfl) ?_
  show Goes _ _ _ _ T (mkF m 5 #[.val (.ref a0), .val (.long q1), .second, .val (.long q2), .second, .val (.long q3), .second] [(.ref a0)])
  refine Goes.go (fun _ => XS.lloadN S.here B.x rfl (B.d d_prog_34_method_1_5) rfl) ?_
  show Goes _ _ _ _ T (mkF m 6 #[.val (.ref a0), .val (.long q1), .second, .val (.long q2), .second, .val (.long q3), .second] [(.long q1), (.ref a0)])
  refine Goes.putF (v' := (.long q1)) S B (w14 hw) F_a0_persistent E_a0 (Or.inr ⟨(w15 hw), rfl, rfl⟩) (w1 hw) (ty := .long) (by decide) rfl rfl g_a0 d_prog_34_method_1_6 ?_
  intro T h S W
  replace K := K.wr W (Or.inl (by simp))
  replace E_a0 := E_a0.wr W
  replace F_a0_persistent := F_a0_persistent.same W
  replace F_a0_transientBytes := F_a0_transientBytes.other W (Or.inr (slot_ne (Or.inr (w17 hw)) (Or.inr (w15 hw)) (by decide) (t := .long) (t' := .long) (by decide) (by decide)))
  replace F_a0_commitBuffer := F_a0_commitBuffer.other W (Or.inr (slot_ne (Or.inr (w19 hw)) (Or.inr (w15 hw)) (by decide) (t := .long) (t' := .long) (by decide) (by decide)))
  show Goes _ _ _ _ T (mkF m 9 #[.val (.ref a0), .val (.long q1), .second, .val (.long q2), .second, .val (.long q3), .second] [])
  refine Goes.go (fun _ => XS.aloadN S.here B.x rfl (B.d d_prog_34_method_1_9) rfl rfl) ?_
  show Goes _ _ _ _ T (mkF m 10 #[.val (.ref a0), .val (.long q1), .second, .val (.long q2), .second, .val (.long q3), .second] [(.ref a0)])
  refine Goes.go (fun _ => XS.lloadN S.here B.x rfl (B.d d_prog_34_method_1_10) rfl) ?_
  show Goes _ _ _ _ T (mkF m 11 #[.val (.ref a0), .val (.long q1), .second, .val (.long q2), .second, .val (.long q3), .second] [(.long q2), (.ref a0)])
  refine Goes.putF (v' := (.long q2)) S B (w16 hw) F_a0_transientBytes E_a0 (Or.inr ⟨(w17 hw), rfl, rfl⟩) (w1 hw) (ty := .long) (by decide) rfl rfl g_a0 d_prog_34_method_1_11 ?_
  intro T h S W
  replace K := K.wr W (Or.inl (by simp))
  replace E_a0 := E_a0.wr W
  replace F_a0_persistent := F_a0_persistent.other W (Or.inr (slot_ne (Or.inr (w15 hw)) (Or.inr (w17 hw)) (by decide) (t := .long) (t' := .long) (by decide) (by decide)))
  replace F_a0_transientBytes := F_a0_transientBytes.same W
  replace F_a0_commitBuffer := F_a0_commitBuffer.other W (Or.inr (slot_ne (Or.inr (w19 hw)) (Or.inr (w17 hw)) (by decide) (t := .long) (t' := .long) (by decide) (by decide)))
  show Goes _ _ _ _ T (mkF m 14 #[.val (.ref a0), .val (.long q1), .second, .val (.long q2), .second, .val (.long q3), .second] [])
  refine Goes.go (fun _ => XS.aloadN S.here B.x rfl (B.d d_prog_34_method_1_14) rfl rfl) ?_
  show Goes _ _ _ _ T (mkF m 15 #[.val (.ref a0), .val (.long q1), .second, .val (.long q2), .second, .val (.long q3), .second] [(.ref a0)])
  refine Goes.go (fun _ => XS.lload S.here B.x rfl (B.d d_prog_34_method_1_15) rfl) ?_
  show Goes _ _ _ _ T (mkF m 17 #[.val (.ref a0), .val (.long q1), .second, .val (.long q2), .second, .val (.long q3), .second] [(.long q3), (.ref a0)])
  refine Goes.putF (v' := (.long q3)) S B (w18 hw) F_a0_commitBuffer E_a0 (Or.inr ⟨(w19 hw), rfl, rfl⟩) (w1 hw) (ty := .long) (by decide) rfl rfl g_a0 d_prog_34_method_1_17 ?_
  intro T h S W
  replace K := K.wr W (Or.inl (by simp))
  replace E_a0 := E_a0.wr W
  replace F_a0_persistent := F_a0_persistent.other W (Or.inr (slot_ne (Or.inr (w15 hw)) (Or.inr (w19 hw)) (by decide) (t := .long) (t' := .long) (by decide) (by decide)))
  replace F_a0_transientBytes := F_a0_transientBytes.other W (Or.inr (slot_ne (Or.inr (w17 hw)) (Or.inr (w19 hw)) (by decide) (t := .long) (t' := .long) (by decide) (by decide)))
  replace F_a0_commitBuffer := F_a0_commitBuffer.same W
  show Goes _ _ _ _ T (mkF m 20 #[.val (.ref a0), .val (.long q1), .second, .val (.long q2), .second, .val (.long q3), .second] [])
  refine Goes.retV S B d_prog_34_method_1_20 (by decide) (by decide) ?_
  exact ⟨(by first | rfl | (rw [bi_pos (by assumption)]; rfl) | (rw [bi_neg (by assumption)]; rfl) | (rw [nar_bi]; exact congrArg (fun z => some (Value.int z)) (bi_congr (by simp_all))) | (simp_all [bi, nar]; done)), K, (by first | exact E_a0 | (simpa using E_a0)), (by first | exact F_a0_persistent | (simpa using F_a0_persistent)), (by first | exact F_a0_transientBytes | (simpa using F_a0_transientBytes)), (by first | exact F_a0_commitBuffer | (simpa using F_a0_commitBuffer))⟩
theorem ef_rm_fig (m : MethodId) (a0 : Addr) : entryFrame m #[(.ref a0)] 1 = mkF m 0 #[.val (.ref a0)] [] := by first | (simp [entryFrame, mkF, argsToLocals, Value.category]; done) | rfl
def Q_rm_fig (Z : State) (a0 : Addr) (g1 : Int64) (g2 : Int64) (g3 : Int64) (h0 : Heap) (n0 : Nat) (v : Option Value) (h : Heap) : Prop := ∃ (r : Addr), v = some (.ref r) ∧ h0.size ≤ r ∧ Keep h0 h [] ∧ Ary Z h r .long 3 (upd (upd (upd (fun _ => (.long 0)) 0 (.long g1)) 1 (.long g2)) 2 (.long g3))
set_option maxRecDepth 65536 in
set_option maxHeartbeats 40000000 in
theorem rm_fig (l : Launch) (Z : State) (aw : Array Value) (hw : ∀ d ∈ tables_1, d.before aw Z = true) (a0 : Addr) (g1 : Int64) (g2 : Int64) (g3 : Int64) (h0 : Heap) (n0 : Nat) (F_a0_persistent : Fld Z h0 a0 "com/example/cardwarden/cardwarden/MemoryBytes" "persistent" "J" (.long g1)) (F_a0_transientBytes : Fld Z h0 a0 "com/example/cardwarden/cardwarden/MemoryBytes" "transientBytes" "J" (.long g2)) (F_a0_commitBuffer : Fld Z h0 a0 "com/example/cardwarden/cardwarden/MemoryBytes" "commitBuffer" "J" (.long g3)) :
    Con l Z (⟨"com/example/cardwarden/cardwarden/MemoryBytes", "figures", "()[J"⟩ : MethodName) prog_34_method_5_code 1 (some (.array .long)) ({ frames := 0, cells := 1, slots := 3, locals := 0 } : Room) #[(.ref a0)] h0 n0 (Q_rm_fig Z a0 g1 g2 g3 h0 n0) := by
  refine Con.body (plainFor_of_name pn_1) ?_
  intro p e s m below meth c T B S
  refine Goes.cast (ef_rm_fig m a0) ?_
  have K : Keep h0 h0 [] := Keep.refl _ _
  refine Goes.go (fun _ => XS.iconst S.here B.x rfl (B.d d_prog_34_method_5_0)) ?_
  show Goes _ _ _ _ T (mkF m 1 #[.val (.ref a0)] [(.int (3 : Int32))])
  refine Goes.newP (aty := .long) (cap := 3) S B (w25 hw) d_prog_34_method_5_1 (by decide) (by decide) (by decide) (by decide) (by decide) ?_
  intro T h b1 S X zb g_b1 A_b1
  have ne_a0__b1 : a0 ≠ b1 := Nat.ne_of_lt (Nat.lt_of_lt_of_le F_a0_persistent.lt (Nat.le_of_eq zb.symm))
  have z_b1 : h0.size ≤ b1 := Nat.le_trans K.1 (Nat.le_of_eq zb.symm)
  replace K := K.ext X
  replace F_a0_persistent := F_a0_persistent.ext X
  replace F_a0_transientBytes := F_a0_transientBytes.ext X
  replace F_a0_commitBuffer := F_a0_commitBuffer.ext X
  replace A_b1 : Ary Z h b1 .long 3 (fun _ => (.long 0)) := A_b1
  show Goes _ _ _ _ T (mkF m 3 #[.val (.ref a0)] [(.ref b1)])
  refine Goes.go (fun _ => XS.dup S.here B.x rfl (B.d d_prog_34_method_5_3) rfl rfl) ?_
  show Goes _ _ _ _ T (mkF m 4 #[.val (.ref a0)] [(.ref b1), (.ref b1)])
  refine Goes.go (fun _ => XS.iconst S.here B.x rfl (B.d d_prog_34_method_5_4)) ?_
  show Goes _ _ _ _ T (mkF m 5 #[.val (.ref a0)] [(.int (0 : Int32)), (.ref b1), (.ref b1)])
  refine Goes.go (fun _ => XS.aloadN S.here B.x rfl (B.d d_prog_34_method_5_5) rfl rfl) ?_
  show Goes _ _ _ _ T (mkF m 6 #[.val (.ref a0)] [(.ref a0), (.int (0 : Int32)), (.ref b1), (.ref b1)])
  refine Goes.getF S B (w14 hw) F_a0_persistent d_prog_34_method_5_6 ?_
  intro T S
  show Goes _ _ _ _ T (mkF m 9 #[.val (.ref a0)] [(.long g1), (.int (0 : Int32)), (.ref b1), (.ref b1)])
  refine Goes.lastore S B A_b1 (by decide) (by decide) g_b1 d_prog_34_method_5_9 ?_
  intro T h S W A_b1
  replace K := K.wr W (Or.inr z_b1)
  replace F_a0_persistent := F_a0_persistent.other W (Or.inl ne_a0__b1)
  replace F_a0_transientBytes := F_a0_transientBytes.other W (Or.inl ne_a0__b1)
  replace F_a0_commitBuffer := F_a0_commitBuffer.other W (Or.inl ne_a0__b1)
  replace A_b1 : Ary Z h b1 .long 3 (upd (fun _ => (.long 0)) 0 (.long g1)) := A_b1
  show Goes _ _ _ _ T (mkF m 10 #[.val (.ref a0)] [(.ref b1)])
  refine Goes.go (fun _ => XS.dup S.here B.x rfl (B.d d_prog_34_method_5_10) rfl rfl) ?_
  show Goes _ _ _ _ T (mkF m 11 #[.val (.ref a0)] [(.ref b1), (.ref b1)])
  refine Goes.go (fun _ => XS.iconst S.here B.x rfl (B.d d_prog_34_method_5_11)) ?_
  show Goes _ _ _ _ T (mkF m 12 #[.val (.ref a0)] [(.int (1 : Int32)), (.ref b1), (.ref b1)])
  refine Goes.go (fun _ => XS.aloadN S.here B.x rfl (B.d d_prog_34_method_5_12) rfl rfl) ?_
  show Goes _ _ _ _ T (mkF m 13 #[.val (.ref a0)] [(.ref a0), (.int (1 : Int32)), (.ref b1), (.ref b1)])
  refine Goes.getF S B (w16 hw) F_a0_transientBytes d_prog_34_method_5_13 ?_
  intro T S
  show Goes _ _ _ _ T (mkF m 16 #[.val (.ref a0)] [(.long g2), (.int (1 : Int32)), (.ref b1), (.ref b1)])
  refine Goes.lastore S B A_b1 (by decide) (by decide) g_b1 d_prog_34_method_5_16 ?_
  intro T h S W A_b1
  replace K := K.wr W (Or.inr z_b1)
  replace F_a0_persistent := F_a0_persistent.other W (Or.inl ne_a0__b1)
  replace F_a0_transientBytes := F_a0_transientBytes.other W (Or.inl ne_a0__b1)
  replace F_a0_commitBuffer := F_a0_commitBuffer.other W (Or.inl ne_a0__b1)
  replace A_b1 : Ary Z h b1 .long 3 (upd (upd (fun _ => (.long 0)) 0 (.long g1)) 1 (.long g2)) := A_b1
  show Goes _ _ _ _ T (mkF m 17 #[.val (.ref a0)] [(.ref b1)])
  refine Goes.go (fun _ => XS.dup S.here B.x rfl (B.d d_prog_34_method_5_17) rfl rfl) ?_
  show Goes _ _ _ _ T (mkF m 18 #[.val (.ref a0)] [(.ref b1), (.ref b1)])
  refine Goes.go (fun _ => XS.iconst S.here B.x rfl (B.d d_prog_34_method_5_18)) ?_
  show Goes _ _ _ _ T (mkF m 19 #[.val (.ref a0)] [(.int (2 : Int32)), (.ref b1), (.ref b1)])
  refine Goes.go (fun _ => XS.aloadN S.here B.x rfl (B.d d_prog_34_method_5_19) rfl rfl) ?_
  show Goes _ _ _ _ T (mkF m 20 #[.val (.ref a0)] [(.ref a0), (.int (2 : Int32)), (.ref b1), (.ref b1)])
  refine Goes.getF S B (w18 hw) F_a0_commitBuffer d_prog_34_method_5_20 ?_
  intro T S
  show Goes _ _ _ _ T (mkF m 23 #[.val (.ref a0)] [(.long g3), (.int (2 : Int32)), (.ref b1), (.ref b1)])
  refine Goes.lastore S B A_b1 (by decide) (by decide) g_b1 d_prog_34_method_5_23 ?_
  intro T h S W A_b1
  replace K := K.wr W (Or.inr z_b1)
  replace F_a0_persistent := F_a0_persistent.other W (Or.inl ne_a0__b1)
  replace F_a0_transientBytes := F_a0_transientBytes.other W (Or.inl ne_a0__b1)
  replace F_a0_commitBuffer := F_a0_commitBuffer.other W (Or.inl ne_a0__b1)
  replace A_b1 : Ary Z h b1 .long 3 (upd (upd (upd (fun _ => (.long 0)) 0 (.long g1)) 1 (.long g2)) 2 (.long g3)) := A_b1
  show Goes _ _ _ _ T (mkF m 24 #[.val (.ref a0)] [(.ref b1)])
  refine Goes.retA S B rfl d_prog_34_method_5_24 (by decide) (by decide) ?_
  exact ⟨b1, rfl, z_b1, K, (by first | exact A_b1 | (simpa using A_b1))⟩
theorem ef_rm_of (m : MethodId) (a0 : Addr) : entryFrame m #[(.ref a0)] 1 = mkF m 0 #[.val (.ref a0)] [] := by first | (simp [entryFrame, mkF, argsToLocals, Value.category]; done) | rfl
def Q_rm_of (Z : State) (a0 : Addr) (g1 : Int64) (g2 : Int64) (g3 : Int64) (h0 : Heap) (n0 : Nat) (v : Option Value) (h : Heap) : Prop := ∃ (r : Addr), v = some (.ref r) ∧ h0.size ≤ r ∧ Keep h0 h [] ∧ Exa Z h r "com/example/cardwarden/cardwarden/MemoryBytes" ∧ Fld Z h r "com/example/cardwarden/cardwarden/MemoryBytes" "persistent" "J" (.long g1) ∧ Fld Z h r "com/example/cardwarden/cardwarden/MemoryBytes" "transientBytes" "J" (.long g2) ∧ Fld Z h r "com/example/cardwarden/cardwarden/MemoryBytes" "commitBuffer" "J" (.long g3)
set_option maxRecDepth 65536 in
set_option maxHeartbeats 40000000 in
theorem rm_of (l : Launch) (Z : State) (aw : Array Value) (hw : ∀ d ∈ tables_1, d.before aw Z = true) (a0 : Addr) (g1 : Int64) (g2 : Int64) (g3 : Int64) (h0 : Heap) (n0 : Nat) (A_a0 : Ary Z h0 a0 .long 3 (upd (upd (upd (fun _ => (.long 0)) 0 (.long g1)) 1 (.long g2)) 2 (.long g3))) :
    Con l Z (⟨"com/example/cardwarden/cardwarden/MemoryBytes", "of", "([J)Lcom/example/cardwarden/cardwarden/MemoryBytes;"⟩ : MethodName) prog_34_method_2_code 1 (some (.object "com/example/cardwarden/cardwarden/MemoryBytes")) ({ frames := 3, cells := 1, slots := 3, locals := 43 } : Room) #[(.ref a0)] h0 n0 (Q_rm_of Z a0 g1 g2 g3 h0 n0) := by
  refine Con.body (plainFor_of_name pn_1) ?_
  intro p e s m below meth c T B S
  refine Goes.cast (ef_rm_of m a0) ?_
  have K : Keep h0 h0 [] := Keep.refl _ _
  refine Goes.newO S B (w30 hw) (w1 hw) (w2 hw) d_prog_34_method_2_0 (by decide) (by decide) ?_
  intro T h b1 S X zb g_b1 E_b1 D
  have ne_a0__b1 : a0 ≠ b1 := Nat.ne_of_lt (Nat.lt_of_lt_of_le A_a0.lt (Nat.le_of_eq zb.symm))
  have z_b1 : h0.size ≤ b1 := Nat.le_trans K.1 (Nat.le_of_eq zb.symm)
  replace K := K.ext X
  replace A_a0 := A_a0.ext X
  have F_b1_persistent : Fld Z h b1 "com/example/cardwarden/cardwarden/MemoryBytes" "persistent" "J" (.long (0 : Int64)) := D (Or.inr (w15 hw)) (ty := .long) (by decide)
  have F_b1_transientBytes : Fld Z h b1 "com/example/cardwarden/cardwarden/MemoryBytes" "transientBytes" "J" (.long (0 : Int64)) := D (Or.inr (w17 hw)) (ty := .long) (by decide)
  have F_b1_commitBuffer : Fld Z h b1 "com/example/cardwarden/cardwarden/MemoryBytes" "commitBuffer" "J" (.long (0 : Int64)) := D (Or.inr (w19 hw)) (ty := .long) (by decide)
  show Goes _ _ _ _ T (mkF m 3 #[.val (.ref a0)] [(.ref b1)])
  refine Goes.go (fun _ => XS.dup S.here B.x rfl (B.d d_prog_34_method_2_3) rfl rfl) ?_
  show Goes _ _ _ _ T (mkF m 4 #[.val (.ref a0)] [(.ref b1), (.ref b1)])
  refine Goes.go (fun _ => XS.aloadN S.here B.x rfl (B.d d_prog_34_method_2_4) rfl rfl) ?_
  show Goes _ _ _ _ T (mkF m 5 #[.val (.ref a0)] [(.ref a0), (.ref b1), (.ref b1)])
  refine Goes.go (fun _ => XS.iconst S.here B.x rfl (B.d d_prog_34_method_2_5)) ?_
  show Goes _ _ _ _ T (mkF m 6 #[.val (.ref a0)] [(.int (0 : Int32)), (.ref a0), (.ref b1), (.ref b1)])
  refine Goes.laload S B A_a0 (by decide) (by decide) d_prog_34_method_2_6 (v := (.long g1)) rfl ?_
  show Goes _ _ _ _ T (mkF m 7 #[.val (.ref a0)] [(.long g1), (.ref b1), (.ref b1)])
  refine Goes.go (fun _ => XS.aloadN S.here B.x rfl (B.d d_prog_34_method_2_7) rfl rfl) ?_
  show Goes _ _ _ _ T (mkF m 8 #[.val (.ref a0)] [(.ref a0), (.long g1), (.ref b1), (.ref b1)])
  refine Goes.go (fun _ => XS.iconst S.here B.x rfl (B.d d_prog_34_method_2_8)) ?_
  show Goes _ _ _ _ T (mkF m 9 #[.val (.ref a0)] [(.int (1 : Int32)), (.ref a0), (.long g1), (.ref b1), (.ref b1)])
  refine Goes.laload S B A_a0 (by decide) (by decide) d_prog_34_method_2_9 (v := (.long g2)) rfl ?_
  show Goes _ _ _ _ T (mkF m 10 #[.val (.ref a0)] [(.long g2), (.long g1), (.ref b1), (.ref b1)])
  refine Goes.go (fun _ => XS.aloadN S.here B.x rfl (B.d d_prog_34_method_2_10) rfl rfl) ?_
  show Goes _ _ _ _ T (mkF m 11 #[.val (.ref a0)] [(.ref a0), (.long g2), (.long g1), (.ref b1), (.ref b1)])
  refine Goes.go (fun _ => XS.iconst S.here B.x rfl (B.d d_prog_34_method_2_11)) ?_
  show Goes _ _ _ _ T (mkF m 12 #[.val (.ref a0)] [(.int (2 : Int32)), (.ref a0), (.long g2), (.long g1), (.ref b1), (.ref b1)])
  refine Goes.laload S B A_a0 (by decide) (by decide) d_prog_34_method_2_12 (v := (.long g3)) rfl ?_
  show Goes _ _ _ _ T (mkF m 13 #[.val (.ref a0)] [(.long g3), (.long g2), (.long g1), (.ref b1), (.ref b1)])
  refine Goes.callI (argsL := [(.long g1), (.long g2), (.long g3)]) (rest := [(.ref b1)]) (W := 1) S B (rmI l Z aw hw b1 g1 g2 g3 _ n0 E_b1 F_b1_persistent F_b1_transientBytes F_b1_commitBuffer g_b1) (w31 hw) (w4 hw) (w2 hw) (w5 hw) (by decide) rfl (by decide) (by decide) (by decide) (by decide) rfl (lenOf pd_1 rfl) rfl (Nat.le_of_eq rfl) d_prog_34_method_2_13 ?_
  intro v T h S hQ
  obtain ⟨rfl, Kc, E_b1', F_b1_persistent', F_b1_transientBytes', F_b1_commitBuffer'⟩ := hQ
  replace K := K.trans Kc (allS (Or.inr z_b1) all0)
  replace A_a0 := A_a0.keep Kc (ninS ne_a0__b1 nin0)
  replace E_b1 := E_b1'
  replace F_b1_persistent := F_b1_persistent'
  replace F_b1_transientBytes := F_b1_transientBytes'
  replace F_b1_commitBuffer := F_b1_commitBuffer'
  show Goes _ _ _ _ T (mkF m 16 #[.val (.ref a0)] [(.ref b1)])
  refine Goes.retA S B rfl d_prog_34_method_2_16 (by decide) (by decide) ?_
  exact ⟨b1, rfl, z_b1, K, (by first | exact E_b1 | (simpa using E_b1)), (by first | exact F_b1_persistent | (simpa using F_b1_persistent)), (by first | exact F_b1_transientBytes | (simpa using F_b1_transientBytes)), (by first | exact F_b1_commitBuffer | (simpa using F_b1_commitBuffer))⟩
theorem ef_rm_persistent (m : MethodId) (a0 : Addr) : entryFrame m #[(.ref a0)] 1 = mkF m 0 #[.val (.ref a0)] [] := by first | (simp [entryFrame, mkF, argsToLocals, Value.category]; done) | rfl
def Q_rm_persistent (Z : State) (a0 : Addr) (g1 : Int64) (h0 : Heap) (n0 : Nat) (v : Option Value) (h : Heap) : Prop := v = some (.long g1) ∧ h = h0
set_option maxRecDepth 65536 in
set_option maxHeartbeats 40000000 in
theorem rm_persistent (l : Launch) (Z : State) (aw : Array Value) (hw : ∀ d ∈ tables_1, d.before aw Z = true) (a0 : Addr) (g1 : Int64) (h0 : Heap) (n0 : Nat) (F_a0_persistent : Fld Z h0 a0 "com/example/cardwarden/cardwarden/MemoryBytes" "persistent" "J" (.long g1)) :
    Con l Z (⟨"com/example/cardwarden/cardwarden/MemoryBytes", "persistent", "()J"⟩ : MethodName) prog_34_method_13_code 1 (some .long) ({ frames := 0, cells := 0, slots := 0, locals := 0 } : Room) #[(.ref a0)] h0 n0 (Q_rm_persistent Z a0 g1 h0 n0) := by
  refine Con.body (plainFor_of_name pn_1) ?_
  intro p e s m below meth c T B S
  refine Goes.cast (ef_rm_persistent m a0) ?_
  refine Goes.go (fun _ => XS.aloadN S.here B.x rfl (B.d d_prog_34_method_13_0) rfl rfl) ?_
  show Goes _ _ _ _ T (mkF m 1 #[.val (.ref a0)] [(.ref a0)])
  refine Goes.getF S B (w14 hw) F_a0_persistent d_prog_34_method_13_1 ?_
  intro T S
  show Goes _ _ _ _ T (mkF m 4 #[.val (.ref a0)] [(.long g1)])
  refine Goes.retL S B d_prog_34_method_13_4 (by decide) (by decide) ?_
  exact ⟨(by first | rfl | (rw [bi_pos (by assumption)]; rfl) | (rw [bi_neg (by assumption)]; rfl) | (rw [nar_bi]; exact congrArg (fun z => some (Value.int z)) (bi_congr (by simp_all))) | (simp_all [bi, nar]; done)), rfl⟩
theorem ef_rm_transientBytes (m : MethodId) (a0 : Addr) : entryFrame m #[(.ref a0)] 1 = mkF m 0 #[.val (.ref a0)] [] := by first | (simp [entryFrame, mkF, argsToLocals, Value.category]; done) | rfl
def Q_rm_transientBytes (Z : State) (a0 : Addr) (g2 : Int64) (h0 : Heap) (n0 : Nat) (v : Option Value) (h : Heap) : Prop := v = some (.long g2) ∧ h = h0
set_option maxRecDepth 65536 in
set_option maxHeartbeats 40000000 in
theorem rm_transientBytes (l : Launch) (Z : State) (aw : Array Value) (hw : ∀ d ∈ tables_1, d.before aw Z = true) (a0 : Addr) (g2 : Int64) (h0 : Heap) (n0 : Nat) (F_a0_transientBytes : Fld Z h0 a0 "com/example/cardwarden/cardwarden/MemoryBytes" "transientBytes" "J" (.long g2)) :
    Con l Z (⟨"com/example/cardwarden/cardwarden/MemoryBytes", "transientBytes", "()J"⟩ : MethodName) prog_34_method_14_code 1 (some .long) ({ frames := 0, cells := 0, slots := 0, locals := 0 } : Room) #[(.ref a0)] h0 n0 (Q_rm_transientBytes Z a0 g2 h0 n0) := by
  refine Con.body (plainFor_of_name pn_1) ?_
  intro p e s m below meth c T B S
  refine Goes.cast (ef_rm_transientBytes m a0) ?_
  refine Goes.go (fun _ => XS.aloadN S.here B.x rfl (B.d d_prog_34_method_14_0) rfl rfl) ?_
  show Goes _ _ _ _ T (mkF m 1 #[.val (.ref a0)] [(.ref a0)])
  refine Goes.getF S B (w16 hw) F_a0_transientBytes d_prog_34_method_14_1 ?_
  intro T S
  show Goes _ _ _ _ T (mkF m 4 #[.val (.ref a0)] [(.long g2)])
  refine Goes.retL S B d_prog_34_method_14_4 (by decide) (by decide) ?_
  exact ⟨(by first | rfl | (rw [bi_pos (by assumption)]; rfl) | (rw [bi_neg (by assumption)]; rfl) | (rw [nar_bi]; exact congrArg (fun z => some (Value.int z)) (bi_congr (by simp_all))) | (simp_all [bi, nar]; done)), rfl⟩
theorem ef_rm_commitBuffer (m : MethodId) (a0 : Addr) : entryFrame m #[(.ref a0)] 1 = mkF m 0 #[.val (.ref a0)] [] := by first | (simp [entryFrame, mkF, argsToLocals, Value.category]; done) | rfl
def Q_rm_commitBuffer (Z : State) (a0 : Addr) (g3 : Int64) (h0 : Heap) (n0 : Nat) (v : Option Value) (h : Heap) : Prop := v = some (.long g3) ∧ h = h0
set_option maxRecDepth 65536 in
set_option maxHeartbeats 40000000 in
theorem rm_commitBuffer (l : Launch) (Z : State) (aw : Array Value) (hw : ∀ d ∈ tables_1, d.before aw Z = true) (a0 : Addr) (g3 : Int64) (h0 : Heap) (n0 : Nat) (F_a0_commitBuffer : Fld Z h0 a0 "com/example/cardwarden/cardwarden/MemoryBytes" "commitBuffer" "J" (.long g3)) :
    Con l Z (⟨"com/example/cardwarden/cardwarden/MemoryBytes", "commitBuffer", "()J"⟩ : MethodName) prog_34_method_15_code 1 (some .long) ({ frames := 0, cells := 0, slots := 0, locals := 0 } : Room) #[(.ref a0)] h0 n0 (Q_rm_commitBuffer Z a0 g3 h0 n0) := by
  refine Con.body (plainFor_of_name pn_1) ?_
  intro p e s m below meth c T B S
  refine Goes.cast (ef_rm_commitBuffer m a0) ?_
  refine Goes.go (fun _ => XS.aloadN S.here B.x rfl (B.d d_prog_34_method_15_0) rfl rfl) ?_
  show Goes _ _ _ _ T (mkF m 1 #[.val (.ref a0)] [(.ref a0)])
  refine Goes.getF S B (w18 hw) F_a0_commitBuffer d_prog_34_method_15_1 ?_
  intro T S
  show Goes _ _ _ _ T (mkF m 4 #[.val (.ref a0)] [(.long g3)])
  refine Goes.retL S B d_prog_34_method_15_4 (by decide) (by decide) ?_
  exact ⟨(by first | rfl | (rw [bi_pos (by assumption)]; rfl) | (rw [bi_neg (by assumption)]; rfl) | (rw [nar_bi]; exact congrArg (fun z => some (Value.int z)) (bi_congr (by simp_all))) | (simp_all [bi, nar]; done)), rfl⟩
theorem ef_rm0 (m : MethodId) (q0 : Int64) (q1 : Int64) (q2 : Int64) : entryFrame m #[(.long q0), (.long q1), (.long q2)] maxLocals = mkF m 0 #[.val (.long q0), .second, .val (.long q1), .second, .val (.long q2), .second, .unset, .unset, .unset, .unset, .unset] [] := by first | (simp [entryFrame, mkF, argsToLocals, Value.category, maxLocals]; done) | rfl
def Q_rm0 (Z : State) (q0 : Int64) (q1 : Int64) (q2 : Int64) (h0 : Heap) (n0 : Nat) (v : Option Value) (h : Heap) : Prop := v = some (.int 1)
set_option maxRecDepth 65536 in
set_option maxHeartbeats 40000000 in
theorem rm0 (l : Launch) (Z : State) (aw : Array Value) (hw : ∀ d ∈ tables_1, d.before aw Z = true) (q0 : Int64) (q1 : Int64) (q2 : Int64) (h0 : Heap) (n0 : Nat) :
    Con l Z x code maxLocals ret room_1 #[(.long q0), (.long q1), (.long q2)] h0 n0 (Q_rm0 Z q0 q1 q2 h0 n0) := by
  refine Con.body (plainFor_of_name pn_2) ?_
  intro p e s m below meth c T B S
  refine Goes.cast (ef_rm0 m q0 q1 q2) ?_
  refine Goes.newO S B (w0 hw) (w1 hw) (w2 hw) at_0 (by decide) (by decide) ?_
  intro T h b1 S X zb g_b1 E_b1 D
  have F_b1_persistent : Fld Z h b1 "com/example/cardwarden/cardwarden/MemoryBytes" "persistent" "J" (.long (0 : Int64)) := D (Or.inr (w15 hw)) (ty := .long) (by decide)
  have F_b1_transientBytes : Fld Z h b1 "com/example/cardwarden/cardwarden/MemoryBytes" "transientBytes" "J" (.long (0 : Int64)) := D (Or.inr (w17 hw)) (ty := .long) (by decide)
  have F_b1_commitBuffer : Fld Z h b1 "com/example/cardwarden/cardwarden/MemoryBytes" "commitBuffer" "J" (.long (0 : Int64)) := D (Or.inr (w19 hw)) (ty := .long) (by decide)
  show Goes _ _ _ _ T (mkF m 3 #[.val (.long q0), .second, .val (.long q1), .second, .val (.long q2), .second, .unset, .unset, .unset, .unset, .unset] [(.ref b1)])
  refine Goes.go (fun _ => XS.dup S.here B.x rfl (B.d at_3) rfl rfl) ?_
  show Goes _ _ _ _ T (mkF m 4 #[.val (.long q0), .second, .val (.long q1), .second, .val (.long q2), .second, .unset, .unset, .unset, .unset, .unset] [(.ref b1), (.ref b1)])
  refine Goes.go (fun _ => XS.lloadN S.here B.x rfl (B.d at_4) rfl) ?_
  show Goes _ _ _ _ T (mkF m 5 #[.val (.long q0), .second, .val (.long q1), .second, .val (.long q2), .second, .unset, .unset, .unset, .unset, .unset] [(.long q0), (.ref b1), (.ref b1)])
  refine Goes.go (fun _ => XS.lloadN S.here B.x rfl (B.d at_5) rfl) ?_
  show Goes _ _ _ _ T (mkF m 6 #[.val (.long q0), .second, .val (.long q1), .second, .val (.long q2), .second, .unset, .unset, .unset, .unset, .unset] [(.long q1), (.long q0), (.ref b1), (.ref b1)])
  refine Goes.go (fun _ => XS.lload S.here B.x rfl (B.d at_6) rfl) ?_
  show Goes _ _ _ _ T (mkF m 8 #[.val (.long q0), .second, .val (.long q1), .second, .val (.long q2), .second, .unset, .unset, .unset, .unset, .unset] [(.long q2), (.long q1), (.long q0), (.ref b1), (.ref b1)])
  refine Goes.callI (argsL := [(.long q0), (.long q1), (.long q2)]) (rest := [(.ref b1)]) (W := 1) S B (rmI l Z aw hw b1 q0 q1 q2 _ n0 E_b1 F_b1_persistent F_b1_transientBytes F_b1_commitBuffer g_b1) (w3 hw) (w4 hw) (w2 hw) (w5 hw) (by decide) rfl (by decide) (by decide) (by decide) (by decide) rfl (lenOf pd_1 rfl) rfl (Nat.le_of_eq rfl) at_8 ?_
  intro v T h S hQ
  obtain ⟨rfl, Kc, E_b1', F_b1_persistent', F_b1_transientBytes', F_b1_commitBuffer'⟩ := hQ
  replace E_b1 := E_b1'
  replace F_b1_persistent := F_b1_persistent'
  replace F_b1_transientBytes := F_b1_transientBytes'
  replace F_b1_commitBuffer := F_b1_commitBuffer'
  show Goes _ _ _ _ T (mkF m 11 #[.val (.long q0), .second, .val (.long q1), .second, .val (.long q2), .second, .unset, .unset, .unset, .unset, .unset] [(.ref b1)])
  refine Goes.go (fun _ => XS.astore S.here B.x rfl (B.d at_11) rfl rfl (l' := #[.val (.long q0), .second, .val (.long q1), .second, .val (.long q2), .second, .val (.ref b1), .unset, .unset, .unset, .unset]) rfl) ?_
  show Goes _ _ _ _ T (mkF m 13 #[.val (.long q0), .second, .val (.long q1), .second, .val (.long q2), .second, .val (.ref b1), .unset, .unset, .unset, .unset] [])
  refine Goes.go (fun _ => XS.aload S.here B.x rfl (B.d at_13) rfl rfl) ?_
  show Goes _ _ _ _ T (mkF m 15 #[.val (.long q0), .second, .val (.long q1), .second, .val (.long q2), .second, .val (.ref b1), .unset, .unset, .unset, .unset] [(.ref b1)])
  have zle := S.le
  refine Goes.callV (argsL := []) (rest := []) (W := 0) S B (rm_fig l Z aw hw b1 q0 q1 q2 _ n0 F_b1_persistent F_b1_transientBytes F_b1_commitBuffer) E_b1 (w20 hw) (w21 hw) (w23 hw) (w22 hw) (w2 hw) (w24 hw) (by decide) (by decide) (by decide) (by decide) (by decide) rfl (lenOf pd_2 rfl) rfl (Nat.le_of_eq rfl) at_15 ?_
  intro v T h S hQ
  obtain ⟨b2, rfl, zb, Kc, A_b2'⟩ := hQ
  have ne_b1__b2 : b1 ≠ b2 := Nat.ne_of_lt (Nat.lt_of_lt_of_le E_b1.lt zb)
  have g_b2 : n0 ≤ b2 := Nat.le_trans zle zb
  replace E_b1 := E_b1.keep Kc
  replace F_b1_persistent := F_b1_persistent.keep Kc nin0
  replace F_b1_transientBytes := F_b1_transientBytes.keep Kc nin0
  replace F_b1_commitBuffer := F_b1_commitBuffer.keep Kc nin0
  have A_b2 := A_b2'
  show Goes _ _ _ _ T (mkF m 18 #[.val (.long q0), .second, .val (.long q1), .second, .val (.long q2), .second, .val (.ref b1), .unset, .unset, .unset, .unset] [(.ref b2)])
  refine Goes.go (fun _ => XS.astore S.here B.x rfl (B.d at_18) rfl rfl (l' := #[.val (.long q0), .second, .val (.long q1), .second, .val (.long q2), .second, .val (.ref b1), .val (.ref b2), .unset, .unset, .unset]) rfl) ?_
  show Goes _ _ _ _ T (mkF m 20 #[.val (.long q0), .second, .val (.long q1), .second, .val (.long q2), .second, .val (.ref b1), .val (.ref b2), .unset, .unset, .unset] [])
  refine Goes.go (fun _ => XS.aload S.here B.x rfl (B.d at_20) rfl rfl) ?_
  show Goes _ _ _ _ T (mkF m 22 #[.val (.long q0), .second, .val (.long q1), .second, .val (.long q2), .second, .val (.ref b1), .val (.ref b2), .unset, .unset, .unset] [(.ref b2)])
  refine Goes.alen S B A_b2 (z := (3 : Int32)) rfl at_22 ?_
  show Goes _ _ _ _ T (mkF m 23 #[.val (.long q0), .second, .val (.long q1), .second, .val (.long q2), .second, .val (.ref b1), .val (.ref b2), .unset, .unset, .unset] [(.int (3 : Int32))])
  refine Goes.go (fun _ => XS.iconst S.here B.x rfl (B.d at_23)) ?_
  show Goes _ _ _ _ T (mkF m 24 #[.val (.long q0), .second, .val (.long q1), .second, .val (.long q2), .second, .val (.ref b1), .val (.ref b2), .unset, .unset, .unset] [(.int (3 : Int32)), (.int (3 : Int32))])
  refine Goes.go (fun _ => XS.icmpNo S.here B.x rfl (B.d at_24) rfl (by decide)) ?_
  show Goes _ _ _ _ T (mkF m 27 #[.val (.long q0), .second, .val (.long q1), .second, .val (.long q2), .second, .val (.ref b1), .val (.ref b2), .unset, .unset, .unset] [])
  refine Goes.go (fun _ => XS.goto S.here B.x rfl (pc0 := 27) (pc' := 32) rfl (B.d at_27) (by decide) (by decide)) ?_
  show Goes _ _ _ _ T (mkF m 32 #[.val (.long q0), .second, .val (.long q1), .second, .val (.long q2), .second, .val (.ref b1), .val (.ref b2), .unset, .unset, .unset] [])
  refine Goes.go (fun _ => XS.aload S.here B.x rfl (B.d at_32) rfl rfl) ?_
  show Goes _ _ _ _ T (mkF m 34 #[.val (.long q0), .second, .val (.long q1), .second, .val (.long q2), .second, .val (.ref b1), .val (.ref b2), .unset, .unset, .unset] [(.ref b2)])
  refine Goes.go (fun _ => XS.iconst S.here B.x rfl (B.d at_34)) ?_
  show Goes _ _ _ _ T (mkF m 35 #[.val (.long q0), .second, .val (.long q1), .second, .val (.long q2), .second, .val (.ref b1), .val (.ref b2), .unset, .unset, .unset] [(.int (0 : Int32)), (.ref b2)])
  refine Goes.laload S B A_b2 (by decide) (by decide) at_35 (v := (.long q0)) rfl ?_
  show Goes _ _ _ _ T (mkF m 36 #[.val (.long q0), .second, .val (.long q1), .second, .val (.long q2), .second, .val (.ref b1), .val (.ref b2), .unset, .unset, .unset] [(.long q0)])
  refine Goes.go (fun _ => XS.lloadN S.here B.x rfl (B.d at_36) rfl) ?_
  show Goes _ _ _ _ T (mkF m 37 #[.val (.long q0), .second, .val (.long q1), .second, .val (.long q2), .second, .val (.ref b1), .val (.ref b2), .unset, .unset, .unset] [(.long q0), (.long q0)])
  refine Goes.go (fun _ => XS.lcmp S.here B.x rfl (B.d at_37) rfl) ?_
  show Goes _ _ _ _ T (mkF m 38 #[.val (.long q0), .second, .val (.long q1), .second, .val (.long q2), .second, .val (.ref b1), .val (.ref b2), .unset, .unset, .unset] [(.int (lcmpW q0 q0))])
  refine Goes.go (fun _ => XS.ifNo S.here B.x rfl (B.d at_38) rfl ((if0 _ _).trans (teq ((lw_eq q0 q0).mpr (rfl : q0 = q0))).2)) ?_
  show Goes _ _ _ _ T (mkF m 41 #[.val (.long q0), .second, .val (.long q1), .second, .val (.long q2), .second, .val (.ref b1), .val (.ref b2), .unset, .unset, .unset] [])
  refine Goes.go (fun _ => XS.aload S.here B.x rfl (B.d at_41) rfl rfl) ?_
  show Goes _ _ _ _ T (mkF m 43 #[.val (.long q0), .second, .val (.long q1), .second, .val (.long q2), .second, .val (.ref b1), .val (.ref b2), .unset, .unset, .unset] [(.ref b2)])
  refine Goes.go (fun _ => XS.iconst S.here B.x rfl (B.d at_43)) ?_
  show Goes _ _ _ _ T (mkF m 44 #[.val (.long q0), .second, .val (.long q1), .second, .val (.long q2), .second, .val (.ref b1), .val (.ref b2), .unset, .unset, .unset] [(.int (1 : Int32)), (.ref b2)])
  refine Goes.laload S B A_b2 (by decide) (by decide) at_44 (v := (.long q1)) rfl ?_
  show Goes _ _ _ _ T (mkF m 45 #[.val (.long q0), .second, .val (.long q1), .second, .val (.long q2), .second, .val (.ref b1), .val (.ref b2), .unset, .unset, .unset] [(.long q1)])
  refine Goes.go (fun _ => XS.lloadN S.here B.x rfl (B.d at_45) rfl) ?_
  show Goes _ _ _ _ T (mkF m 46 #[.val (.long q0), .second, .val (.long q1), .second, .val (.long q2), .second, .val (.ref b1), .val (.ref b2), .unset, .unset, .unset] [(.long q1), (.long q1)])
  refine Goes.go (fun _ => XS.lcmp S.here B.x rfl (B.d at_46) rfl) ?_
  show Goes _ _ _ _ T (mkF m 47 #[.val (.long q0), .second, .val (.long q1), .second, .val (.long q2), .second, .val (.ref b1), .val (.ref b2), .unset, .unset, .unset] [(.int (lcmpW q1 q1))])
  refine Goes.go (fun _ => XS.ifNo S.here B.x rfl (B.d at_47) rfl ((if0 _ _).trans (teq ((lw_eq q1 q1).mpr (rfl : q1 = q1))).2)) ?_
  show Goes _ _ _ _ T (mkF m 50 #[.val (.long q0), .second, .val (.long q1), .second, .val (.long q2), .second, .val (.ref b1), .val (.ref b2), .unset, .unset, .unset] [])
  refine Goes.go (fun _ => XS.aload S.here B.x rfl (B.d at_50) rfl rfl) ?_
  show Goes _ _ _ _ T (mkF m 52 #[.val (.long q0), .second, .val (.long q1), .second, .val (.long q2), .second, .val (.ref b1), .val (.ref b2), .unset, .unset, .unset] [(.ref b2)])
  refine Goes.go (fun _ => XS.iconst S.here B.x rfl (B.d at_52)) ?_
  show Goes _ _ _ _ T (mkF m 53 #[.val (.long q0), .second, .val (.long q1), .second, .val (.long q2), .second, .val (.ref b1), .val (.ref b2), .unset, .unset, .unset] [(.int (2 : Int32)), (.ref b2)])
  refine Goes.laload S B A_b2 (by decide) (by decide) at_53 (v := (.long q2)) rfl ?_
  show Goes _ _ _ _ T (mkF m 54 #[.val (.long q0), .second, .val (.long q1), .second, .val (.long q2), .second, .val (.ref b1), .val (.ref b2), .unset, .unset, .unset] [(.long q2)])
  refine Goes.go (fun _ => XS.lload S.here B.x rfl (B.d at_54) rfl) ?_
  show Goes _ _ _ _ T (mkF m 56 #[.val (.long q0), .second, .val (.long q1), .second, .val (.long q2), .second, .val (.ref b1), .val (.ref b2), .unset, .unset, .unset] [(.long q2), (.long q2)])
  refine Goes.go (fun _ => XS.lcmp S.here B.x rfl (B.d at_56) rfl) ?_
  show Goes _ _ _ _ T (mkF m 57 #[.val (.long q0), .second, .val (.long q1), .second, .val (.long q2), .second, .val (.ref b1), .val (.ref b2), .unset, .unset, .unset] [(.int (lcmpW q2 q2))])
  refine Goes.go (fun _ => XS.ifNo S.here B.x rfl (B.d at_57) rfl ((if0 _ _).trans (teq ((lw_eq q2 q2).mpr (rfl : q2 = q2))).2)) ?_
  show Goes _ _ _ _ T (mkF m 60 #[.val (.long q0), .second, .val (.long q1), .second, .val (.long q2), .second, .val (.ref b1), .val (.ref b2), .unset, .unset, .unset] [])
  refine Goes.go (fun _ => XS.iconst S.here B.x rfl (B.d at_60)) ?_
  show Goes _ _ _ _ T (mkF m 61 #[.val (.long q0), .second, .val (.long q1), .second, .val (.long q2), .second, .val (.ref b1), .val (.ref b2), .unset, .unset, .unset] [(.int (1 : Int32))])
  refine Goes.go (fun _ => XS.goto S.here B.x rfl (pc0 := 61) (pc' := 65) rfl (B.d at_61) (by decide) (by decide)) ?_
  show Goes _ _ _ _ T (mkF m 65 #[.val (.long q0), .second, .val (.long q1), .second, .val (.long q2), .second, .val (.ref b1), .val (.ref b2), .unset, .unset, .unset] [(.int (1 : Int32))])
  refine Goes.go (fun _ => XS.istore S.here B.x rfl (B.d at_65) rfl (l' := #[.val (.long q0), .second, .val (.long q1), .second, .val (.long q2), .second, .val (.ref b1), .val (.ref b2), .val (.int (1 : Int32)), .unset, .unset]) rfl) ?_
  show Goes _ _ _ _ T (mkF m 67 #[.val (.long q0), .second, .val (.long q1), .second, .val (.long q2), .second, .val (.ref b1), .val (.ref b2), .val (.int (1 : Int32)), .unset, .unset] [])
  refine Goes.go (fun _ => XS.aload S.here B.x rfl (B.d at_67) rfl rfl) ?_
  show Goes _ _ _ _ T (mkF m 69 #[.val (.long q0), .second, .val (.long q1), .second, .val (.long q2), .second, .val (.ref b1), .val (.ref b2), .val (.int (1 : Int32)), .unset, .unset] [(.ref b2)])
  refine Goes.go (fun _ => XS.iconst S.here B.x rfl (B.d at_69)) ?_
  show Goes _ _ _ _ T (mkF m 70 #[.val (.long q0), .second, .val (.long q1), .second, .val (.long q2), .second, .val (.ref b1), .val (.ref b2), .val (.int (1 : Int32)), .unset, .unset] [(.int (0 : Int32)), (.ref b2)])
  refine Goes.go (fun _ => XS.lloadN S.here B.x rfl (B.d at_70) rfl) ?_
  show Goes _ _ _ _ T (mkF m 71 #[.val (.long q0), .second, .val (.long q1), .second, .val (.long q2), .second, .val (.ref b1), .val (.ref b2), .val (.int (1 : Int32)), .unset, .unset] [(.long q0), (.int (0 : Int32)), (.ref b2)])
  refine Goes.ldcL S B (w26 hw) at_71 ?_
  show Goes _ _ _ _ T (mkF m 74 #[.val (.long q0), .second, .val (.long q1), .second, .val (.long q2), .second, .val (.ref b1), .val (.ref b2), .val (.int (1 : Int32)), .unset, .unset] [(.long (-1 : Int64)), (.long q0), (.int (0 : Int32)), (.ref b2)])
  refine Goes.go (fun _ => XS.lxor S.here B.x rfl (B.d at_74) rfl) ?_
  show Goes _ _ _ _ T (mkF m 75 #[.val (.long q0), .second, .val (.long q1), .second, .val (.long q2), .second, .val (.ref b1), .val (.ref b2), .val (.int (1 : Int32)), .unset, .unset] [(.long (q0 ^^^ (-1 : Int64))), (.int (0 : Int32)), (.ref b2)])
  refine Goes.lastore S B A_b2 (by decide) (by decide) g_b2 at_75 ?_
  intro T h S W A_b2
  replace E_b1 := E_b1.wr W
  replace F_b1_persistent := F_b1_persistent.other W (Or.inl ne_b1__b2)
  replace F_b1_transientBytes := F_b1_transientBytes.other W (Or.inl ne_b1__b2)
  replace F_b1_commitBuffer := F_b1_commitBuffer.other W (Or.inl ne_b1__b2)
  replace A_b2 : Ary Z h b2 .long 3 (upd (upd (upd (upd (fun _ => (.long 0)) 0 (.long q0)) 1 (.long q1)) 2 (.long q2)) 0 (.long (q0 ^^^ (-1 : Int64)))) := A_b2
  show Goes _ _ _ _ T (mkF m 76 #[.val (.long q0), .second, .val (.long q1), .second, .val (.long q2), .second, .val (.ref b1), .val (.ref b2), .val (.int (1 : Int32)), .unset, .unset] [])
  refine Goes.go (fun _ => XS.aload S.here B.x rfl (B.d at_76) rfl rfl) ?_
  show Goes _ _ _ _ T (mkF m 78 #[.val (.long q0), .second, .val (.long q1), .second, .val (.long q2), .second, .val (.ref b1), .val (.ref b2), .val (.int (1 : Int32)), .unset, .unset] [(.ref b2)])
  refine Goes.go (fun _ => XS.iconst S.here B.x rfl (B.d at_78)) ?_
  show Goes _ _ _ _ T (mkF m 79 #[.val (.long q0), .second, .val (.long q1), .second, .val (.long q2), .second, .val (.ref b1), .val (.ref b2), .val (.int (1 : Int32)), .unset, .unset] [(.int (1 : Int32)), (.ref b2)])
  refine Goes.go (fun _ => XS.lloadN S.here B.x rfl (B.d at_79) rfl) ?_
  show Goes _ _ _ _ T (mkF m 80 #[.val (.long q0), .second, .val (.long q1), .second, .val (.long q2), .second, .val (.ref b1), .val (.ref b2), .val (.int (1 : Int32)), .unset, .unset] [(.long q1), (.int (1 : Int32)), (.ref b2)])
  refine Goes.ldcL S B (w26 hw) at_80 ?_
  show Goes _ _ _ _ T (mkF m 83 #[.val (.long q0), .second, .val (.long q1), .second, .val (.long q2), .second, .val (.ref b1), .val (.ref b2), .val (.int (1 : Int32)), .unset, .unset] [(.long (-1 : Int64)), (.long q1), (.int (1 : Int32)), (.ref b2)])
  refine Goes.go (fun _ => XS.lxor S.here B.x rfl (B.d at_83) rfl) ?_
  show Goes _ _ _ _ T (mkF m 84 #[.val (.long q0), .second, .val (.long q1), .second, .val (.long q2), .second, .val (.ref b1), .val (.ref b2), .val (.int (1 : Int32)), .unset, .unset] [(.long (q1 ^^^ (-1 : Int64))), (.int (1 : Int32)), (.ref b2)])
  refine Goes.lastore S B A_b2 (by decide) (by decide) g_b2 at_84 ?_
  intro T h S W A_b2
  replace E_b1 := E_b1.wr W
  replace F_b1_persistent := F_b1_persistent.other W (Or.inl ne_b1__b2)
  replace F_b1_transientBytes := F_b1_transientBytes.other W (Or.inl ne_b1__b2)
  replace F_b1_commitBuffer := F_b1_commitBuffer.other W (Or.inl ne_b1__b2)
  replace A_b2 : Ary Z h b2 .long 3 (upd (upd (upd (upd (upd (fun _ => (.long 0)) 0 (.long q0)) 1 (.long q1)) 2 (.long q2)) 0 (.long (q0 ^^^ (-1 : Int64)))) 1 (.long (q1 ^^^ (-1 : Int64)))) := A_b2
  show Goes _ _ _ _ T (mkF m 85 #[.val (.long q0), .second, .val (.long q1), .second, .val (.long q2), .second, .val (.ref b1), .val (.ref b2), .val (.int (1 : Int32)), .unset, .unset] [])
  refine Goes.go (fun _ => XS.aload S.here B.x rfl (B.d at_85) rfl rfl) ?_
  show Goes _ _ _ _ T (mkF m 87 #[.val (.long q0), .second, .val (.long q1), .second, .val (.long q2), .second, .val (.ref b1), .val (.ref b2), .val (.int (1 : Int32)), .unset, .unset] [(.ref b2)])
  refine Goes.go (fun _ => XS.iconst S.here B.x rfl (B.d at_87)) ?_
  show Goes _ _ _ _ T (mkF m 88 #[.val (.long q0), .second, .val (.long q1), .second, .val (.long q2), .second, .val (.ref b1), .val (.ref b2), .val (.int (1 : Int32)), .unset, .unset] [(.int (2 : Int32)), (.ref b2)])
  refine Goes.go (fun _ => XS.lload S.here B.x rfl (B.d at_88) rfl) ?_
  show Goes _ _ _ _ T (mkF m 90 #[.val (.long q0), .second, .val (.long q1), .second, .val (.long q2), .second, .val (.ref b1), .val (.ref b2), .val (.int (1 : Int32)), .unset, .unset] [(.long q2), (.int (2 : Int32)), (.ref b2)])
  refine Goes.ldcL S B (w26 hw) at_90 ?_
  show Goes _ _ _ _ T (mkF m 93 #[.val (.long q0), .second, .val (.long q1), .second, .val (.long q2), .second, .val (.ref b1), .val (.ref b2), .val (.int (1 : Int32)), .unset, .unset] [(.long (-1 : Int64)), (.long q2), (.int (2 : Int32)), (.ref b2)])
  refine Goes.go (fun _ => XS.lxor S.here B.x rfl (B.d at_93) rfl) ?_
  show Goes _ _ _ _ T (mkF m 94 #[.val (.long q0), .second, .val (.long q1), .second, .val (.long q2), .second, .val (.ref b1), .val (.ref b2), .val (.int (1 : Int32)), .unset, .unset] [(.long (q2 ^^^ (-1 : Int64))), (.int (2 : Int32)), (.ref b2)])
  refine Goes.lastore S B A_b2 (by decide) (by decide) g_b2 at_94 ?_
  intro T h S W A_b2
  replace E_b1 := E_b1.wr W
  replace F_b1_persistent := F_b1_persistent.other W (Or.inl ne_b1__b2)
  replace F_b1_transientBytes := F_b1_transientBytes.other W (Or.inl ne_b1__b2)
  replace F_b1_commitBuffer := F_b1_commitBuffer.other W (Or.inl ne_b1__b2)
  replace A_b2 : Ary Z h b2 .long 3 (upd (upd (upd (upd (upd (upd (fun _ => (.long 0)) 0 (.long q0)) 1 (.long q1)) 2 (.long q2)) 0 (.long (q0 ^^^ (-1 : Int64)))) 1 (.long (q1 ^^^ (-1 : Int64)))) 2 (.long (q2 ^^^ (-1 : Int64)))) := A_b2
  show Goes _ _ _ _ T (mkF m 95 #[.val (.long q0), .second, .val (.long q1), .second, .val (.long q2), .second, .val (.ref b1), .val (.ref b2), .val (.int (1 : Int32)), .unset, .unset] [])
  refine Goes.go (fun _ => XS.aload S.here B.x rfl (B.d at_95) rfl rfl) ?_
  show Goes _ _ _ _ T (mkF m 97 #[.val (.long q0), .second, .val (.long q1), .second, .val (.long q2), .second, .val (.ref b1), .val (.ref b2), .val (.int (1 : Int32)), .unset, .unset] [(.ref b1)])
  have zle := S.le
  refine Goes.callV (argsL := []) (rest := []) (W := 0) S B (rm_fig l Z aw hw b1 q0 q1 q2 _ n0 F_b1_persistent F_b1_transientBytes F_b1_commitBuffer) E_b1 (w20 hw) (w21 hw) (w23 hw) (w22 hw) (w2 hw) (w24 hw) (by decide) (by decide) (by decide) (by decide) (by decide) rfl (lenOf pd_2 rfl) rfl (Nat.le_of_eq rfl) at_97 ?_
  intro v T h S hQ
  obtain ⟨b3, rfl, zb, Kc, A_b3'⟩ := hQ
  have ne_b1__b3 : b1 ≠ b3 := Nat.ne_of_lt (Nat.lt_of_lt_of_le E_b1.lt zb)
  have ne_b2__b3 : b2 ≠ b3 := Nat.ne_of_lt (Nat.lt_of_lt_of_le A_b2.lt zb)
  have g_b3 : n0 ≤ b3 := Nat.le_trans zle zb
  replace E_b1 := E_b1.keep Kc
  replace F_b1_persistent := F_b1_persistent.keep Kc nin0
  replace F_b1_transientBytes := F_b1_transientBytes.keep Kc nin0
  replace F_b1_commitBuffer := F_b1_commitBuffer.keep Kc nin0
  replace A_b2 := A_b2.keep Kc nin0
  have A_b3 := A_b3'
  show Goes _ _ _ _ T (mkF m 100 #[.val (.long q0), .second, .val (.long q1), .second, .val (.long q2), .second, .val (.ref b1), .val (.ref b2), .val (.int (1 : Int32)), .unset, .unset] [(.ref b3)])
  refine Goes.go (fun _ => XS.astore S.here B.x rfl (B.d at_100) rfl rfl (l' := #[.val (.long q0), .second, .val (.long q1), .second, .val (.long q2), .second, .val (.ref b1), .val (.ref b2), .val (.int (1 : Int32)), .val (.ref b3), .unset]) rfl) ?_
  show Goes _ _ _ _ T (mkF m 102 #[.val (.long q0), .second, .val (.long q1), .second, .val (.long q2), .second, .val (.ref b1), .val (.ref b2), .val (.int (1 : Int32)), .val (.ref b3), .unset] [])
  refine Goes.go (fun _ => XS.aload S.here B.x rfl (B.d at_102) rfl rfl) ?_
  show Goes _ _ _ _ T (mkF m 104 #[.val (.long q0), .second, .val (.long q1), .second, .val (.long q2), .second, .val (.ref b1), .val (.ref b2), .val (.int (1 : Int32)), .val (.ref b3), .unset] [(.ref b3)])
  refine Goes.alen S B A_b3 (z := (3 : Int32)) rfl at_104 ?_
  show Goes _ _ _ _ T (mkF m 105 #[.val (.long q0), .second, .val (.long q1), .second, .val (.long q2), .second, .val (.ref b1), .val (.ref b2), .val (.int (1 : Int32)), .val (.ref b3), .unset] [(.int (3 : Int32))])
  refine Goes.go (fun _ => XS.iconst S.here B.x rfl (B.d at_105)) ?_
  show Goes _ _ _ _ T (mkF m 106 #[.val (.long q0), .second, .val (.long q1), .second, .val (.long q2), .second, .val (.ref b1), .val (.ref b2), .val (.int (1 : Int32)), .val (.ref b3), .unset] [(.int (3 : Int32)), (.int (3 : Int32))])
  refine Goes.go (fun _ => XS.icmpYes S.here B.x rfl (pc0 := 106) (pc' := 111) rfl (B.d at_106) rfl (by decide) (by decide) (by decide)) ?_
  show Goes _ _ _ _ T (mkF m 111 #[.val (.long q0), .second, .val (.long q1), .second, .val (.long q2), .second, .val (.ref b1), .val (.ref b2), .val (.int (1 : Int32)), .val (.ref b3), .unset] [])
  refine Goes.go (fun _ => XS.iload S.here B.x rfl (B.d at_111) rfl) ?_
  show Goes _ _ _ _ T (mkF m 113 #[.val (.long q0), .second, .val (.long q1), .second, .val (.long q2), .second, .val (.ref b1), .val (.ref b2), .val (.int (1 : Int32)), .val (.ref b3), .unset] [(.int (1 : Int32))])
  refine Goes.go (fun _ => XS.ifNo S.here B.x rfl (B.d at_113) rfl (by decide)) ?_
  show Goes _ _ _ _ T (mkF m 116 #[.val (.long q0), .second, .val (.long q1), .second, .val (.long q2), .second, .val (.ref b1), .val (.ref b2), .val (.int (1 : Int32)), .val (.ref b3), .unset] [])
  refine Goes.go (fun _ => XS.aload S.here B.x rfl (B.d at_116) rfl rfl) ?_
  show Goes _ _ _ _ T (mkF m 118 #[.val (.long q0), .second, .val (.long q1), .second, .val (.long q2), .second, .val (.ref b1), .val (.ref b2), .val (.int (1 : Int32)), .val (.ref b3), .unset] [(.ref b3)])
  refine Goes.go (fun _ => XS.aload S.here B.x rfl (B.d at_118) rfl rfl) ?_
  show Goes _ _ _ _ T (mkF m 120 #[.val (.long q0), .second, .val (.long q1), .second, .val (.long q2), .second, .val (.ref b1), .val (.ref b2), .val (.int (1 : Int32)), .val (.ref b3), .unset] [(.ref b2), (.ref b3)])
  refine Goes.acmp (x := (.ref b3)) (y := (.ref b2)) S B rfl rfl (pc' := 123) (same := false) at_120 (decide_eq_false fun q => ne_b2__b3.symm (Value.ref.inj q)) (by decide) (by decide) ?_
  show Goes _ _ _ _ T (mkF m 123 #[.val (.long q0), .second, .val (.long q1), .second, .val (.long q2), .second, .val (.ref b1), .val (.ref b2), .val (.int (1 : Int32)), .val (.ref b3), .unset] [])
  refine Goes.go (fun _ => XS.aload S.here B.x rfl (B.d at_123) rfl rfl) ?_
  show Goes _ _ _ _ T (mkF m 125 #[.val (.long q0), .second, .val (.long q1), .second, .val (.long q2), .second, .val (.ref b1), .val (.ref b2), .val (.int (1 : Int32)), .val (.ref b3), .unset] [(.ref b3)])
  refine Goes.go (fun _ => XS.iconst S.here B.x rfl (B.d at_125)) ?_
  show Goes _ _ _ _ T (mkF m 126 #[.val (.long q0), .second, .val (.long q1), .second, .val (.long q2), .second, .val (.ref b1), .val (.ref b2), .val (.int (1 : Int32)), .val (.ref b3), .unset] [(.int (0 : Int32)), (.ref b3)])
  refine Goes.laload S B A_b3 (by decide) (by decide) at_126 (v := (.long q0)) rfl ?_
  show Goes _ _ _ _ T (mkF m 127 #[.val (.long q0), .second, .val (.long q1), .second, .val (.long q2), .second, .val (.ref b1), .val (.ref b2), .val (.int (1 : Int32)), .val (.ref b3), .unset] [(.long q0)])
  refine Goes.go (fun _ => XS.lloadN S.here B.x rfl (B.d at_127) rfl) ?_
  show Goes _ _ _ _ T (mkF m 128 #[.val (.long q0), .second, .val (.long q1), .second, .val (.long q2), .second, .val (.ref b1), .val (.ref b2), .val (.int (1 : Int32)), .val (.ref b3), .unset] [(.long q0), (.long q0)])
  refine Goes.go (fun _ => XS.lcmp S.here B.x rfl (B.d at_128) rfl) ?_
  show Goes _ _ _ _ T (mkF m 129 #[.val (.long q0), .second, .val (.long q1), .second, .val (.long q2), .second, .val (.ref b1), .val (.ref b2), .val (.int (1 : Int32)), .val (.ref b3), .unset] [(.int (lcmpW q0 q0))])
  refine Goes.go (fun _ => XS.ifNo S.here B.x rfl (B.d at_129) rfl ((if0 _ _).trans (teq ((lw_eq q0 q0).mpr (rfl : q0 = q0))).2)) ?_
  show Goes _ _ _ _ T (mkF m 132 #[.val (.long q0), .second, .val (.long q1), .second, .val (.long q2), .second, .val (.ref b1), .val (.ref b2), .val (.int (1 : Int32)), .val (.ref b3), .unset] [])
  refine Goes.go (fun _ => XS.aload S.here B.x rfl (B.d at_132) rfl rfl) ?_
  show Goes _ _ _ _ T (mkF m 134 #[.val (.long q0), .second, .val (.long q1), .second, .val (.long q2), .second, .val (.ref b1), .val (.ref b2), .val (.int (1 : Int32)), .val (.ref b3), .unset] [(.ref b3)])
  refine Goes.go (fun _ => XS.iconst S.here B.x rfl (B.d at_134)) ?_
  show Goes _ _ _ _ T (mkF m 135 #[.val (.long q0), .second, .val (.long q1), .second, .val (.long q2), .second, .val (.ref b1), .val (.ref b2), .val (.int (1 : Int32)), .val (.ref b3), .unset] [(.int (1 : Int32)), (.ref b3)])
  refine Goes.laload S B A_b3 (by decide) (by decide) at_135 (v := (.long q1)) rfl ?_
  show Goes _ _ _ _ T (mkF m 136 #[.val (.long q0), .second, .val (.long q1), .second, .val (.long q2), .second, .val (.ref b1), .val (.ref b2), .val (.int (1 : Int32)), .val (.ref b3), .unset] [(.long q1)])
  refine Goes.go (fun _ => XS.lloadN S.here B.x rfl (B.d at_136) rfl) ?_
  show Goes _ _ _ _ T (mkF m 137 #[.val (.long q0), .second, .val (.long q1), .second, .val (.long q2), .second, .val (.ref b1), .val (.ref b2), .val (.int (1 : Int32)), .val (.ref b3), .unset] [(.long q1), (.long q1)])
  refine Goes.go (fun _ => XS.lcmp S.here B.x rfl (B.d at_137) rfl) ?_
  show Goes _ _ _ _ T (mkF m 138 #[.val (.long q0), .second, .val (.long q1), .second, .val (.long q2), .second, .val (.ref b1), .val (.ref b2), .val (.int (1 : Int32)), .val (.ref b3), .unset] [(.int (lcmpW q1 q1))])
  refine Goes.go (fun _ => XS.ifNo S.here B.x rfl (B.d at_138) rfl ((if0 _ _).trans (teq ((lw_eq q1 q1).mpr (rfl : q1 = q1))).2)) ?_
  show Goes _ _ _ _ T (mkF m 141 #[.val (.long q0), .second, .val (.long q1), .second, .val (.long q2), .second, .val (.ref b1), .val (.ref b2), .val (.int (1 : Int32)), .val (.ref b3), .unset] [])
  refine Goes.go (fun _ => XS.aload S.here B.x rfl (B.d at_141) rfl rfl) ?_
  show Goes _ _ _ _ T (mkF m 143 #[.val (.long q0), .second, .val (.long q1), .second, .val (.long q2), .second, .val (.ref b1), .val (.ref b2), .val (.int (1 : Int32)), .val (.ref b3), .unset] [(.ref b3)])
  refine Goes.go (fun _ => XS.iconst S.here B.x rfl (B.d at_143)) ?_
  show Goes _ _ _ _ T (mkF m 144 #[.val (.long q0), .second, .val (.long q1), .second, .val (.long q2), .second, .val (.ref b1), .val (.ref b2), .val (.int (1 : Int32)), .val (.ref b3), .unset] [(.int (2 : Int32)), (.ref b3)])
  refine Goes.laload S B A_b3 (by decide) (by decide) at_144 (v := (.long q2)) rfl ?_
  show Goes _ _ _ _ T (mkF m 145 #[.val (.long q0), .second, .val (.long q1), .second, .val (.long q2), .second, .val (.ref b1), .val (.ref b2), .val (.int (1 : Int32)), .val (.ref b3), .unset] [(.long q2)])
  refine Goes.go (fun _ => XS.lload S.here B.x rfl (B.d at_145) rfl) ?_
  show Goes _ _ _ _ T (mkF m 147 #[.val (.long q0), .second, .val (.long q1), .second, .val (.long q2), .second, .val (.ref b1), .val (.ref b2), .val (.int (1 : Int32)), .val (.ref b3), .unset] [(.long q2), (.long q2)])
  refine Goes.go (fun _ => XS.lcmp S.here B.x rfl (B.d at_147) rfl) ?_
  show Goes _ _ _ _ T (mkF m 148 #[.val (.long q0), .second, .val (.long q1), .second, .val (.long q2), .second, .val (.ref b1), .val (.ref b2), .val (.int (1 : Int32)), .val (.ref b3), .unset] [(.int (lcmpW q2 q2))])
  refine Goes.go (fun _ => XS.ifNo S.here B.x rfl (B.d at_148) rfl ((if0 _ _).trans (teq ((lw_eq q2 q2).mpr (rfl : q2 = q2))).2)) ?_
  show Goes _ _ _ _ T (mkF m 151 #[.val (.long q0), .second, .val (.long q1), .second, .val (.long q2), .second, .val (.ref b1), .val (.ref b2), .val (.int (1 : Int32)), .val (.ref b3), .unset] [])
  refine Goes.go (fun _ => XS.iconst S.here B.x rfl (B.d at_151)) ?_
  show Goes _ _ _ _ T (mkF m 152 #[.val (.long q0), .second, .val (.long q1), .second, .val (.long q2), .second, .val (.ref b1), .val (.ref b2), .val (.int (1 : Int32)), .val (.ref b3), .unset] [(.int (1 : Int32))])
  refine Goes.go (fun _ => XS.goto S.here B.x rfl (pc0 := 152) (pc' := 156) rfl (B.d at_152) (by decide) (by decide)) ?_
  show Goes _ _ _ _ T (mkF m 156 #[.val (.long q0), .second, .val (.long q1), .second, .val (.long q2), .second, .val (.ref b1), .val (.ref b2), .val (.int (1 : Int32)), .val (.ref b3), .unset] [(.int (1 : Int32))])
  refine Goes.go (fun _ => XS.istore S.here B.x rfl (B.d at_156) rfl (l' := #[.val (.long q0), .second, .val (.long q1), .second, .val (.long q2), .second, .val (.ref b1), .val (.ref b2), .val (.int (1 : Int32)), .val (.ref b3), .unset]) rfl) ?_
  show Goes _ _ _ _ T (mkF m 158 #[.val (.long q0), .second, .val (.long q1), .second, .val (.long q2), .second, .val (.ref b1), .val (.ref b2), .val (.int (1 : Int32)), .val (.ref b3), .unset] [])
  refine Goes.go (fun _ => XS.aload S.here B.x rfl (B.d at_158) rfl rfl) ?_
  show Goes _ _ _ _ T (mkF m 160 #[.val (.long q0), .second, .val (.long q1), .second, .val (.long q2), .second, .val (.ref b1), .val (.ref b2), .val (.int (1 : Int32)), .val (.ref b3), .unset] [(.ref b3)])
  have zle := S.le
  refine Goes.callS (argsL := [(.ref b3)]) (rest := []) (W := 0) S B (rm_of l Z aw hw b3 q0 q1 q2 _ n0 A_b3) (w27 hw) (w28 hw) (w2 hw) (w29 hw) (by decide) (by decide) (by decide) (by decide) (by decide) rfl (lenOf pd_3 rfl) rfl (Nat.le_of_eq rfl) at_160 ?_
  intro v T h S hQ
  obtain ⟨b4, rfl, zb, Kc, E_b4', F_b4_persistent', F_b4_transientBytes', F_b4_commitBuffer'⟩ := hQ
  have ne_b1__b4 : b1 ≠ b4 := Nat.ne_of_lt (Nat.lt_of_lt_of_le E_b1.lt zb)
  have ne_b2__b4 : b2 ≠ b4 := Nat.ne_of_lt (Nat.lt_of_lt_of_le A_b2.lt zb)
  have ne_b3__b4 : b3 ≠ b4 := Nat.ne_of_lt (Nat.lt_of_lt_of_le A_b3.lt zb)
  have g_b4 : n0 ≤ b4 := Nat.le_trans zle zb
  replace E_b1 := E_b1.keep Kc
  replace F_b1_persistent := F_b1_persistent.keep Kc nin0
  replace F_b1_transientBytes := F_b1_transientBytes.keep Kc nin0
  replace F_b1_commitBuffer := F_b1_commitBuffer.keep Kc nin0
  replace A_b2 := A_b2.keep Kc nin0
  replace A_b3 := A_b3.keep Kc nin0
  have E_b4 := E_b4'
  have F_b4_persistent := F_b4_persistent'
  have F_b4_transientBytes := F_b4_transientBytes'
  have F_b4_commitBuffer := F_b4_commitBuffer'
  show Goes _ _ _ _ T (mkF m 163 #[.val (.long q0), .second, .val (.long q1), .second, .val (.long q2), .second, .val (.ref b1), .val (.ref b2), .val (.int (1 : Int32)), .val (.ref b3), .unset] [(.ref b4)])
  refine Goes.go (fun _ => XS.astore S.here B.x rfl (B.d at_163) rfl rfl (l' := #[.val (.long q0), .second, .val (.long q1), .second, .val (.long q2), .second, .val (.ref b1), .val (.ref b2), .val (.int (1 : Int32)), .val (.ref b3), .val (.ref b4)]) rfl) ?_
  show Goes _ _ _ _ T (mkF m 165 #[.val (.long q0), .second, .val (.long q1), .second, .val (.long q2), .second, .val (.ref b1), .val (.ref b2), .val (.int (1 : Int32)), .val (.ref b3), .val (.ref b4)] [])
  refine Goes.go (fun _ => XS.iload S.here B.x rfl (B.d at_165) rfl) ?_
  show Goes _ _ _ _ T (mkF m 167 #[.val (.long q0), .second, .val (.long q1), .second, .val (.long q2), .second, .val (.ref b1), .val (.ref b2), .val (.int (1 : Int32)), .val (.ref b3), .val (.ref b4)] [(.int (1 : Int32))])
  refine Goes.go (fun _ => XS.ifNo S.here B.x rfl (B.d at_167) rfl (by decide)) ?_
  show Goes _ _ _ _ T (mkF m 170 #[.val (.long q0), .second, .val (.long q1), .second, .val (.long q2), .second, .val (.ref b1), .val (.ref b2), .val (.int (1 : Int32)), .val (.ref b3), .val (.ref b4)] [])
  refine Goes.go (fun _ => XS.aload S.here B.x rfl (B.d at_170) rfl rfl) ?_
  show Goes _ _ _ _ T (mkF m 172 #[.val (.long q0), .second, .val (.long q1), .second, .val (.long q2), .second, .val (.ref b1), .val (.ref b2), .val (.int (1 : Int32)), .val (.ref b3), .val (.ref b4)] [(.ref b4)])
  refine Goes.callV (argsL := []) (rest := []) (W := 0) S B (rm_persistent l Z aw hw b4 q0 _ n0 F_b4_persistent) E_b4 (w32 hw) (w33 hw) (w35 hw) (w34 hw) (w2 hw) (w36 hw) (by decide) (by decide) (by decide) (by decide) (by decide) rfl (lenOf pd_4 rfl) rfl (Nat.le_of_eq rfl) at_172 ?_
  intro v T h S hQ
  obtain ⟨rfl, hh⟩ := hQ
  replace hh := hh.symm
  subst hh
  show Goes _ _ _ _ T (mkF m 175 #[.val (.long q0), .second, .val (.long q1), .second, .val (.long q2), .second, .val (.ref b1), .val (.ref b2), .val (.int (1 : Int32)), .val (.ref b3), .val (.ref b4)] [(.long q0)])
  refine Goes.go (fun _ => XS.lloadN S.here B.x rfl (B.d at_175) rfl) ?_
  show Goes _ _ _ _ T (mkF m 176 #[.val (.long q0), .second, .val (.long q1), .second, .val (.long q2), .second, .val (.ref b1), .val (.ref b2), .val (.int (1 : Int32)), .val (.ref b3), .val (.ref b4)] [(.long q0), (.long q0)])
  refine Goes.go (fun _ => XS.lcmp S.here B.x rfl (B.d at_176) rfl) ?_
  show Goes _ _ _ _ T (mkF m 177 #[.val (.long q0), .second, .val (.long q1), .second, .val (.long q2), .second, .val (.ref b1), .val (.ref b2), .val (.int (1 : Int32)), .val (.ref b3), .val (.ref b4)] [(.int (lcmpW q0 q0))])
  refine Goes.go (fun _ => XS.ifNo S.here B.x rfl (B.d at_177) rfl ((if0 _ _).trans (teq ((lw_eq q0 q0).mpr (rfl : q0 = q0))).2)) ?_
  show Goes _ _ _ _ T (mkF m 180 #[.val (.long q0), .second, .val (.long q1), .second, .val (.long q2), .second, .val (.ref b1), .val (.ref b2), .val (.int (1 : Int32)), .val (.ref b3), .val (.ref b4)] [])
  refine Goes.go (fun _ => XS.aload S.here B.x rfl (B.d at_180) rfl rfl) ?_
  show Goes _ _ _ _ T (mkF m 182 #[.val (.long q0), .second, .val (.long q1), .second, .val (.long q2), .second, .val (.ref b1), .val (.ref b2), .val (.int (1 : Int32)), .val (.ref b3), .val (.ref b4)] [(.ref b4)])
  refine Goes.callV (argsL := []) (rest := []) (W := 0) S B (rm_transientBytes l Z aw hw b4 q1 _ n0 F_b4_transientBytes) E_b4 (w37 hw) (w38 hw) (w40 hw) (w39 hw) (w2 hw) (w41 hw) (by decide) (by decide) (by decide) (by decide) (by decide) rfl (lenOf pd_4 rfl) rfl (Nat.le_of_eq rfl) at_182 ?_
  intro v T h S hQ
  obtain ⟨rfl, hh⟩ := hQ
  replace hh := hh.symm
  subst hh
  show Goes _ _ _ _ T (mkF m 185 #[.val (.long q0), .second, .val (.long q1), .second, .val (.long q2), .second, .val (.ref b1), .val (.ref b2), .val (.int (1 : Int32)), .val (.ref b3), .val (.ref b4)] [(.long q1)])
  refine Goes.go (fun _ => XS.lloadN S.here B.x rfl (B.d at_185) rfl) ?_
  show Goes _ _ _ _ T (mkF m 186 #[.val (.long q0), .second, .val (.long q1), .second, .val (.long q2), .second, .val (.ref b1), .val (.ref b2), .val (.int (1 : Int32)), .val (.ref b3), .val (.ref b4)] [(.long q1), (.long q1)])
  refine Goes.go (fun _ => XS.lcmp S.here B.x rfl (B.d at_186) rfl) ?_
  show Goes _ _ _ _ T (mkF m 187 #[.val (.long q0), .second, .val (.long q1), .second, .val (.long q2), .second, .val (.ref b1), .val (.ref b2), .val (.int (1 : Int32)), .val (.ref b3), .val (.ref b4)] [(.int (lcmpW q1 q1))])
  refine Goes.go (fun _ => XS.ifNo S.here B.x rfl (B.d at_187) rfl ((if0 _ _).trans (teq ((lw_eq q1 q1).mpr (rfl : q1 = q1))).2)) ?_
  show Goes _ _ _ _ T (mkF m 190 #[.val (.long q0), .second, .val (.long q1), .second, .val (.long q2), .second, .val (.ref b1), .val (.ref b2), .val (.int (1 : Int32)), .val (.ref b3), .val (.ref b4)] [])
  refine Goes.go (fun _ => XS.aload S.here B.x rfl (B.d at_190) rfl rfl) ?_
  show Goes _ _ _ _ T (mkF m 192 #[.val (.long q0), .second, .val (.long q1), .second, .val (.long q2), .second, .val (.ref b1), .val (.ref b2), .val (.int (1 : Int32)), .val (.ref b3), .val (.ref b4)] [(.ref b4)])
  refine Goes.callV (argsL := []) (rest := []) (W := 0) S B (rm_commitBuffer l Z aw hw b4 q2 _ n0 F_b4_commitBuffer) E_b4 (w42 hw) (w43 hw) (w45 hw) (w44 hw) (w2 hw) (w46 hw) (by decide) (by decide) (by decide) (by decide) (by decide) rfl (lenOf pd_4 rfl) rfl (Nat.le_of_eq rfl) at_192 ?_
  intro v T h S hQ
  obtain ⟨rfl, hh⟩ := hQ
  replace hh := hh.symm
  subst hh
  show Goes _ _ _ _ T (mkF m 195 #[.val (.long q0), .second, .val (.long q1), .second, .val (.long q2), .second, .val (.ref b1), .val (.ref b2), .val (.int (1 : Int32)), .val (.ref b3), .val (.ref b4)] [(.long q2)])
  refine Goes.go (fun _ => XS.lload S.here B.x rfl (B.d at_195) rfl) ?_
  show Goes _ _ _ _ T (mkF m 197 #[.val (.long q0), .second, .val (.long q1), .second, .val (.long q2), .second, .val (.ref b1), .val (.ref b2), .val (.int (1 : Int32)), .val (.ref b3), .val (.ref b4)] [(.long q2), (.long q2)])
  refine Goes.go (fun _ => XS.lcmp S.here B.x rfl (B.d at_197) rfl) ?_
  show Goes _ _ _ _ T (mkF m 198 #[.val (.long q0), .second, .val (.long q1), .second, .val (.long q2), .second, .val (.ref b1), .val (.ref b2), .val (.int (1 : Int32)), .val (.ref b3), .val (.ref b4)] [(.int (lcmpW q2 q2))])
  refine Goes.go (fun _ => XS.ifNo S.here B.x rfl (B.d at_198) rfl ((if0 _ _).trans (teq ((lw_eq q2 q2).mpr (rfl : q2 = q2))).2)) ?_
  show Goes _ _ _ _ T (mkF m 201 #[.val (.long q0), .second, .val (.long q1), .second, .val (.long q2), .second, .val (.ref b1), .val (.ref b2), .val (.int (1 : Int32)), .val (.ref b3), .val (.ref b4)] [])
  refine Goes.go (fun _ => XS.iconst S.here B.x rfl (B.d at_201)) ?_
  show Goes _ _ _ _ T (mkF m 202 #[.val (.long q0), .second, .val (.long q1), .second, .val (.long q2), .second, .val (.ref b1), .val (.ref b2), .val (.int (1 : Int32)), .val (.ref b3), .val (.ref b4)] [(.int (1 : Int32))])
  refine Goes.go (fun _ => XS.goto S.here B.x rfl (pc0 := 202) (pc' := 206) rfl (B.d at_202) (by decide) (by decide)) ?_
  show Goes _ _ _ _ T (mkF m 206 #[.val (.long q0), .second, .val (.long q1), .second, .val (.long q2), .second, .val (.ref b1), .val (.ref b2), .val (.int (1 : Int32)), .val (.ref b3), .val (.ref b4)] [(.int (1 : Int32))])
  refine Goes.go (fun _ => XS.istore S.here B.x rfl (B.d at_206) rfl (l' := #[.val (.long q0), .second, .val (.long q1), .second, .val (.long q2), .second, .val (.ref b1), .val (.ref b2), .val (.int (1 : Int32)), .val (.ref b3), .val (.ref b4)]) rfl) ?_
  show Goes _ _ _ _ T (mkF m 208 #[.val (.long q0), .second, .val (.long q1), .second, .val (.long q2), .second, .val (.ref b1), .val (.ref b2), .val (.int (1 : Int32)), .val (.ref b3), .val (.ref b4)] [])
  refine Goes.go (fun _ => XS.iload S.here B.x rfl (B.d at_208) rfl) ?_
  show Goes _ _ _ _ T (mkF m 210 #[.val (.long q0), .second, .val (.long q1), .second, .val (.long q2), .second, .val (.ref b1), .val (.ref b2), .val (.int (1 : Int32)), .val (.ref b3), .val (.ref b4)] [(.int (1 : Int32))])
  refine Goes.retN S B (by simp) at_210 (by decide) (by decide) ?_
  exact rfl
set_option maxRecDepth 65536 in
set_option maxHeartbeats 40000000 in
theorem comes_1 {Post : Tables → Env → Array Value → State → Outcome → State → Prop} (hpost : ∀ tb e args s v u, (limb_1_1.after args s (.returned v) u = true ∧ limb_1_2.after args s (.returned v) u = true ∧ True) → FrameEnd s (.returned v) u (Jvm.fieldLocs frame_1_writes args s ++ Jvm.arrayLocs frame_1_arrays args s ++ Jvm.staticLocs frame_1_statics s) 16 128 → Post tb e args s (.returned v) u) :
    ArmFor flags0 classFile x code maxLocals ret World_1 tables_1 room_1 Calls_1 rest_1 Pre_1 Post := by
  intro l hfl _ _ p e ha hc hk s m args below hf hA hF happ hP
  obtain ⟨hcalls, hrest, hpre⟩ := hP
  obtain ⟨-, -, -, hnamed, -, -, -, hat⟩ := (Spec.applies_iff hf).mp happ
  obtain ⟨hg, hn⟩ := and_e (Cond.before_iff.mp (show (Jvm.Cond.and given_1 narrow_1).before args s = true from hpre))
  obtain ⟨g0, k0⟩ := and_e hg
  obtain ⟨g1, k1⟩ := and_e k0
  obtain ⟨g2, k2⟩ := and_e k1
  have g3 := k2
  obtain ⟨w0, w1, w2, rfl⟩ : ∃ w0 w1 w2 : Value, args = #[w0, w1, w2] := by
    have hs : args.size = 3 := by simpa [Cond.value, given_1] using g0
    obtain ⟨L⟩ := args
    match L, hs with
    | [w0, w1, w2], _ => exact ⟨w0, w1, w2, rfl⟩
  have hw := fun d (hd : d ∈ tables_1) => atoms_spec (ws := Jvm.Cond.code x code maxLocals ret :: tables_1) hat d (List.mem_cons_of_mem _ hd)
  obtain ⟨i0, ei0⟩ := isL_v g1
  obtain rfl : w0 = (.long i0) := Option.some.inj ei0
  obtain ⟨i1, ei1⟩ := isL_v g2
  obtain rfl : w1 = (.long i1) := Option.some.inj ei1
  obtain ⟨i2, ei2⟩ := isL_v g3
  obtain rfl : w2 = (.long i2) := Option.some.inj ei2
  obtain ⟨n, o, h1, h2, h3, _, L, rfl, ⟨N, rfl⟩, hq⟩ := rm0 l s _ hw i0 i1 i2 s.heap s.heap.size (Nat.le_refl _) tables_1 p e ha hc hk s m _ below hf ((Spec.applies_iff_loose hf).mp happ).1 ⟨rfl, State.Warmed39.refl s, rfl⟩ trivial
  refine ⟨n, _, h1, h2, h3, hpost _ _ _ _ _ _ ⟨Cond.after_iff.mpr rfl, Cond.after_iff.mpr (eq_i res_at (Term.int_eval (1)) rfl), trivial⟩ ⟨hq.1, hq.2.1, (hq.2.2.sift fun y hy => Or.inr (N y hy)).mono (by decide) (by decide)⟩⟩
theorem main_1_1 : Claimed_1_1 := comes_1 fun _ _ _ _ _ _ h hF => ⟨h.1, hF⟩
theorem main_1_2 : Claimed_1_2 := comes_1 fun _ _ _ _ _ _ h hF => ⟨h.2.1, hF⟩
end Jvm.Pilot.@@N@@
namespace Jvm.Pilot.@@N@@
open Jvm Jvm.ClassFile Sem Op Lib Jvm.Free Jvm.Stand Jvm.Pilot.@@N@@.Jvm.D
/-! MADE BY PROGRAM (witnessworld.py) out of the Statement's table words and the real class files: 12 classes; the members and pool entries that the words name. The judged class is class 1, her method 1. -/
namespace start1
open Jvm.ClassFile
def u (s : String) : CpInfo := .utf8 (stringToUtf16 s)
/-- a pool by its gaps: so many unusable entries, then the entry; so many at the end -/
def gap : Nat → List CpInfo → List CpInfo
  | 0, r => r
  | n + 1, r => .unusable :: gap n r
def poolList (es : List (Nat × CpInfo)) (last : Nat) : List CpInfo := es.foldr (fun e r => gap e.1 (e.2 :: r)) (gap last [])
def pool (es : List (Nat × CpInfo)) (last : Nat) : Array CpInfo := ⟨poolList es last⟩
def fileOf (pool : Array CpInfo) (this : Nat) (attrs : Array Attribute := #[]) (ms : Array MethodInfo := #[]) (fl : Nat := 33) (sup : Nat := 0) (ifs : Array Nat := #[]) (fds : Array FieldInfo := #[]) : ClassFile where
  minorVersion := 0
  majorVersion := 65
  constantPool := pool
  accessFlags := fl
  thisClass := this
  superClass := sup
  interfaces := ifs
  fields := fds
  methods := ms
  attributes := attrs
def plain (name : String) (sup : Option ClassId) : Class where
  name := name
  kind := .ordinary
  loader := none
  accessFlags := 33
  super := sup
  interfaces := #[]
  cf := none
  fields := #[]
  methods := #[]
  instanceTypes := #[]
  staticTypes := #[]
  resolved := #[]
  callSites := []
  init := .initialized
  statics := none
  mirror := none

def pool0 : Array CpInfo := pool [(5, u "<init>"), (0, u "()V"), (1, .class_ 10), (1, u "java/lang/Object")] 113

def k0c0 : Code := { maxStack := 0, maxLocals := 1, code := object_method_1_code, exceptionTable := #[], attributes := #[] }
def k0m0 : Method := { name := "<init>", desc := "()V", sig := { parameters := [], returnType := none }, accessFlags := 1, code := some k0c0 }
/-- java/lang/Object -/
def k0 : Class := { plain "java/lang/Object" none with
  accessFlags := 33
  interfaces := #[]
  cf := some (fileOf pool0 8 #[] #[{ accessFlags := 1, nameIndex := 5, descriptorIndex := 6, attributes := #[] }] 33 0 #[] #[])
  fields := #[]
  methods := #[k0m0]
  instanceTypes := #[]
  staticTypes := #[]
  resolved := Array.replicate 124 none
  statics := none }

def pool1 : Array CpInfo := pool [(2, .class_ 4), (1, u "java/lang/Object"), (0, u "<init>"), (0, u "()V"), (0, .class_ 8), (0, u "com/example/cardwarden/cardwarden/MemoryBytes"), (0, .methodref 7 10), (0, .nameAndType 5 11), (0, u "(JJJ)V"), (0, .methodref 7 13), (0, .nameAndType 14 15), (0, u "figures"), (0, u "()[J"), (0, .long 18446744073709551615), (1, .methodref 7 19), (0, .nameAndType 20 21), (0, u "of"), (0, u "([J)Lcom/example/cardwarden/cardwarden/MemoryBytes;"), (0, .methodref 7 23), (0, .nameAndType 24 25), (0, u "persistent"), (0, u "()J"), (0, .methodref 7 27), (0, .nameAndType 28 25), (0, u "transientBytes"), (0, .methodref 7 30), (0, .nameAndType 31 25), (0, u "commitBuffer"), (0, .class_ 33), (0, u "com/example/cardwarden/cardwarden/MemoryBytesFiguresPinLaw"), (2, u "law"), (0, u "(JJJ)Z")] 5

def k1m0 : Method := { name := "<init>", desc := "()V", sig := { parameters := [], returnType := none }, accessFlags := 1, code := none }
def k1c1 : Code := { maxStack := 8, maxLocals := 11, code := code, exceptionTable := #[], attributes := #[] }
def k1m1 : Method := { name := "law", desc := "(JJJ)Z", sig := { parameters := [.long, .long, .long], returnType := some .boolean }, accessFlags := 9, code := some k1c1 }
/-- com/example/cardwarden/cardwarden/MemoryBytesFiguresPinLaw -/
def k1 : Class := { plain "com/example/cardwarden/cardwarden/MemoryBytesFiguresPinLaw" (some 0) with
  accessFlags := 49
  interfaces := #[]
  cf := some (fileOf pool1 32 #[] #[{ accessFlags := 1, nameIndex := 5, descriptorIndex := 6, attributes := #[] }, { accessFlags := 9, nameIndex := 36, descriptorIndex := 37, attributes := #[] }] 49 2 #[] #[])
  fields := #[]
  methods := #[k1m0, k1m1]
  instanceTypes := #[]
  staticTypes := #[]
  resolved := Array.replicate 43 none
  statics := none }

def pool2 : Array CpInfo := pool [(1, .methodref 2 3), (0, .class_ 4), (0, .nameAndType 5 6), (0, u "java/lang/Object"), (0, u "<init>"), (0, u "()V"), (0, .class_ 8), (0, u "java/lang/Record")] 13

def k2c0 : Code := { maxStack := 1, maxLocals := 1, code := jdk_30_method_1_code, exceptionTable := #[], attributes := #[] }
def k2m0 : Method := { name := "<init>", desc := "()V", sig := { parameters := [], returnType := none }, accessFlags := 4, code := some k2c0 }
/-- java/lang/Record -/
def k2 : Class := { plain "java/lang/Record" (some 0) with
  accessFlags := 1057
  interfaces := #[]
  cf := some (fileOf pool2 7 #[] #[{ accessFlags := 4, nameIndex := 5, descriptorIndex := 6, attributes := #[] }] 1057 2 #[] #[])
  fields := #[]
  methods := #[k2m0]
  instanceTypes := #[]
  staticTypes := #[]
  resolved := Array.replicate 22 none
  statics := none }

def pool3 : Array CpInfo := pool [(1, .methodref 2 3), (0, .class_ 4), (0, .nameAndType 5 6), (0, u "java/lang/Record"), (0, u "<init>"), (0, u "()V"), (0, .fieldref 8 9), (0, .class_ 10), (0, .nameAndType 11 12), (0, u "com/example/cardwarden/cardwarden/MemoryBytes"), (0, u "persistent"), (0, u "J"), (0, .fieldref 8 14), (0, .nameAndType 15 12), (0, u "transientBytes"), (0, .fieldref 8 17), (0, .nameAndType 18 12), (0, u "commitBuffer"), (0, .methodref 8 20), (0, .nameAndType 5 21), (0, u "(JJJ)V"), (2, u "figures"), (0, u "()[J"), (32, u "of"), (0, u "([J)Lcom/example/cardwarden/cardwarden/MemoryBytes;"), (14, u "NONE"), (0, u "Lcom/example/cardwarden/cardwarden/MemoryBytes;"), (0, u "KINDS"), (0, u "I"), (19, u "()J")] 47

def k3c0 : Code := { maxStack := 3, maxLocals := 7, code := prog_34_method_1_code, exceptionTable := #[], attributes := #[] }
def k3m0 : Method := { name := "<init>", desc := "(JJJ)V", sig := { parameters := [.long, .long, .long], returnType := none }, accessFlags := 1, code := some k3c0 }
def k3c1 : Code := { maxStack := 8, maxLocals := 1, code := prog_34_method_2_code, exceptionTable := #[], attributes := #[] }
def k3m1 : Method := { name := "of", desc := "([J)Lcom/example/cardwarden/cardwarden/MemoryBytes;", sig := { parameters := [(.array .long)], returnType := some (.object "com/example/cardwarden/cardwarden/MemoryBytes") }, accessFlags := 8, code := some k3c1 }
def k3c2 : Code := { maxStack := 5, maxLocals := 1, code := prog_34_method_5_code, exceptionTable := #[], attributes := #[] }
def k3m2 : Method := { name := "figures", desc := "()[J", sig := { parameters := [], returnType := some (.array .long) }, accessFlags := 0, code := some k3c2 }
def k3c3 : Code := { maxStack := 2, maxLocals := 1, code := prog_34_method_13_code, exceptionTable := #[], attributes := #[] }
def k3m3 : Method := { name := "persistent", desc := "()J", sig := { parameters := [], returnType := some .long }, accessFlags := 1, code := some k3c3 }
def k3c4 : Code := { maxStack := 2, maxLocals := 1, code := prog_34_method_14_code, exceptionTable := #[], attributes := #[] }
def k3m4 : Method := { name := "transientBytes", desc := "()J", sig := { parameters := [], returnType := some .long }, accessFlags := 1, code := some k3c4 }
def k3c5 : Code := { maxStack := 2, maxLocals := 1, code := prog_34_method_15_code, exceptionTable := #[], attributes := #[] }
def k3m5 : Method := { name := "commitBuffer", desc := "()J", sig := { parameters := [], returnType := some .long }, accessFlags := 1, code := some k3c5 }
/-- com/example/cardwarden/cardwarden/MemoryBytes -/
def k3 : Class := { plain "com/example/cardwarden/cardwarden/MemoryBytes" (some 2) with
  accessFlags := 49
  interfaces := #[]
  cf := some (fileOf pool3 8 #[] #[{ accessFlags := 1, nameIndex := 5, descriptorIndex := 21, attributes := #[] }, { accessFlags := 8, nameIndex := 58, descriptorIndex := 59, attributes := #[] }, { accessFlags := 0, nameIndex := 24, descriptorIndex := 25, attributes := #[] }, { accessFlags := 1, nameIndex := 11, descriptorIndex := 97, attributes := #[] }, { accessFlags := 1, nameIndex := 15, descriptorIndex := 97, attributes := #[] }, { accessFlags := 1, nameIndex := 18, descriptorIndex := 97, attributes := #[] }] 49 2 #[] #[{ accessFlags := 18, nameIndex := 11, descriptorIndex := 12, attributes := #[] }, { accessFlags := 18, nameIndex := 15, descriptorIndex := 12, attributes := #[] }, { accessFlags := 18, nameIndex := 18, descriptorIndex := 12, attributes := #[] }, { accessFlags := 24, nameIndex := 76, descriptorIndex := 77, attributes := #[] }, { accessFlags := 24, nameIndex := 74, descriptorIndex := 75, attributes := #[] }])
  fields := #[{ name := "persistent", type := .long, accessFlags := 18, slot := 0, constantValue := 0 }, { name := "transientBytes", type := .long, accessFlags := 18, slot := 1, constantValue := 0 }, { name := "commitBuffer", type := .long, accessFlags := 18, slot := 2, constantValue := 0 }, { name := "KINDS", type := .int, accessFlags := 24, slot := 0, constantValue := 0 }, { name := "NONE", type := (.object "com/example/cardwarden/cardwarden/MemoryBytes"), accessFlags := 24, slot := 1, constantValue := 0 }]
  methods := #[k3m0, k3m1, k3m2, k3m3, k3m4, k3m5]
  instanceTypes := #[.long, .long, .long]
  staticTypes := #[.int, (.object "com/example/cardwarden/cardwarden/MemoryBytes")]
  resolved := Array.replicate 145 none
  statics := none }

def pool4 : Array CpInfo := pool [(1, u "java/lang/Cloneable"), (0, .class_ 1), (0, u "java/lang/Object"), (0, .class_ 3)] 3

/-- java/lang/Cloneable -/
def k4 : Class := { plain "java/lang/Cloneable" (some 0) with
  accessFlags := 1537
  interfaces := #[]
  cf := some (fileOf pool4 2 #[] #[] 1537 4 #[] #[])
  fields := #[]
  methods := #[]
  instanceTypes := #[]
  staticTypes := #[]
  resolved := Array.replicate 8 none
  statics := none }

def pool5 : Array CpInfo := pool [(1, u "java/io/Serializable"), (0, .class_ 1), (0, u "java/lang/Object"), (0, .class_ 3)] 3

/-- java/io/Serializable -/
def k5 : Class := { plain "java/io/Serializable" (some 0) with
  accessFlags := 1537
  interfaces := #[]
  cf := some (fileOf pool5 2 #[] #[] 1537 4 #[] #[])
  fields := #[]
  methods := #[]
  instanceTypes := #[]
  staticTypes := #[]
  resolved := Array.replicate 8 none
  statics := none }

/-- the primitive byte -/
def k6 : Class := { plain "byte" none with kind := .primitive 'B', accessFlags := 0x411 }
/-- [B -/
def k7 : Class := { plain "[B" (some 0) with kind := .array 6 .byte, interfaces := #[4, 5], accessFlags := 1041 }

/-- the primitive int -/
def k8 : Class := { plain "int" none with kind := .primitive 'I', accessFlags := 0x411 }
/-- [I -/
def k9 : Class := { plain "[I" (some 0) with kind := .array 8 .int, interfaces := #[4, 5], accessFlags := 1041 }

/-- the primitive long -/
def k10 : Class := { plain "long" none with kind := .primitive 'J', accessFlags := 0x411 }
/-- [J -/
def k11 : Class := { plain "[J" (some 0) with kind := .array 10 .long, interfaces := #[4, 5], accessFlags := 1041 }

def heap : Heap := #[]
def classes : Array Class := #[k0, k1, k2, k3, k4, k5, k6, k7, k8, k9, k10, k11]
def interned : List (Array UInt16 × Addr) := []
def slotsUsed : Nat := 0
def theMethod : MethodId := ⟨1, 1⟩
def args0 : Array Value := #[.long 5, .long 6, .long 7]
def aboutOver (below : List Frame) : State where
  vm := { classes := classes, interned := interned.toArray }
  heap := heap
  slotsUsed := slotsUsed
  threads := #[{ frames := .invoking theMethod args0 :: below }]
def below0 : List Frame := [.native { method := ⟨0, 0⟩, args := #[] }]
def about1 : State := aboutOver below0
def p0 : Program := .bare "" "" ""
def e0 : Env := launch0.env 0 0 0
theorem w_frames : about1.frames = Frame.invoking theMethod args0 :: below0 := rfl
set_option maxRecDepth 65536 in
theorem w_args : argsFit about1.vm theMethod args0 = true := by decide +kernel
set_option maxRecDepth 65536 in
theorem w_heap : heapFits about1 = true := by decide +kernel
set_option maxRecDepth 65536 in
theorem w_runnable : about1.curStatus? = some .runnable := by decide +kernel
set_option maxRecDepth 65536 in
theorem w_alone : about1.alone = true := by decide +kernel
set_option maxRecDepth 65536 in
theorem w_named : about1.methodNamed? x = some theMethod := by decide +kernel
set_option maxRecDepth 65536 in
theorem w_hears : about1.hears theMethod below0 = true := by decide +kernel
set_option maxRecDepth 65536 in
theorem w_ripe : about1.ripe theMethod args0 below0 = true := by decide +kernel
theorem w_running : about1.status = .running := rfl
set_option maxRecDepth 65536 in
theorem w_room : about1.hasRoom e0.platform room_1 = true :=
  launch0.hasRoom_least _ room_1 (by decide +kernel) (by decide +kernel) (by decide +kernel) (by decide +kernel) (by decide +kernel) (by decide +kernel)
theorem allAtoms_all (ts : List Jvm.Cond) (a : Array Jvm.Value) (st : Jvm.State) : (allAtoms ts).before a st = ts.all (fun c => c.before a st) := by
  induction ts with
  | nil => rfl
  | cons c t ih =>
    show (Jvm.Cond.and c (allAtoms t)).before a st = _
    rw [Jvm.Cond.before_and, ih, List.all_cons]
def words1 : List Jvm.Cond := Jvm.Cond.code x code maxLocals ret :: tables_1
/-- a 'code' word, met by the world's own term for the bytes: nothing is compared byte by byte -/
theorem code_word {y : MethodName} {bytes : ByteArray} {mx : Nat} {rt : Option FieldType} {a : Array Value} {s : State} {m : MethodId} {meth : Method} {c : Code} (h1 : s.methodNamed? y = some m) (h2 : s.vm.method? m = some meth) (h3 : meth.code = some c) (h4 : c.code = bytes)
    (h5 : (c.maxLocals == mx && c.exceptionTable.isEmpty && decide (c.maxStack ≤ mostOperands) && decide (meth.sig.returnType = rt) && !meth.locks && decide (parseMethodDescriptor y.desc = some meth.sig)) = true) : (Jvm.Cond.code y bytes mx rt).before a s = true := by
  simp only [Bool.and_eq_true, beq_iff_eq, Bool.not_eq_true', decide_eq_true_eq] at h5
  obtain ⟨⟨⟨⟨⟨g1, g2⟩, g3⟩, g4⟩, g5⟩, g6⟩ := h5
  simp [Cond.before, Cond.holds, Cond.value, h1, h2, h3, h4, g1, g2, g3, g4, g5, g6]
def isCode : Jvm.Cond → Bool
  | .code _ _ _ _ => true
  | _ => false
theorem all_split {L : List Jvm.Cond} {P : Jvm.Cond → Bool} (h1 : L.all (fun c => isCode c || P c) = true) (h2 : ∀ c ∈ L.filter isCode, P c = true) : L.all P = true := by
  refine List.all_eq_true.mpr fun c hc => ?_
  have h := List.all_eq_true.mp h1 c hc
  rcases Bool.eq_false_or_eq_true (isCode c) with hi | hi
  · exact h2 c (List.mem_filter.mpr ⟨hc, hi⟩)
  · simpa [hi] using h
set_option maxRecDepth 65536 in
theorem w_c0 : (Jvm.Cond.code x code maxLocals ret).before args0 about1 = true := code_word (m := ⟨1, 1⟩) (meth := k1m1) (c := k1c1) (by decide +kernel) rfl rfl rfl (by decide +kernel)
set_option maxRecDepth 65536 in
theorem w_c1 : (Jvm.Cond.code ({ cls := "com/example/cardwarden/cardwarden/MemoryBytes", name := "<init>", desc := "(JJJ)V" } : Jvm.MethodName) prog_34_method_1_code (7 : Nat) (Option.none : Option Jvm.ClassFile.FieldType)).before args0 about1 = true := code_word (m := ⟨3, 0⟩) (meth := k3m0) (c := k3c0) (by decide +kernel) rfl rfl rfl (by decide +kernel)
set_option maxRecDepth 65536 in
theorem w_c2 : (Jvm.Cond.code ({ cls := "java/lang/Record", name := "<init>", desc := "()V" } : Jvm.MethodName) jdk_30_method_1_code (1 : Nat) (Option.none : Option Jvm.ClassFile.FieldType)).before args0 about1 = true := code_word (m := ⟨2, 0⟩) (meth := k2m0) (c := k2c0) (by decide +kernel) rfl rfl rfl (by decide +kernel)
set_option maxRecDepth 65536 in
theorem w_c3 : (Jvm.Cond.code ({ cls := "java/lang/Object", name := "<init>", desc := "()V" } : Jvm.MethodName) object_method_1_code (1 : Nat) (Option.none : Option Jvm.ClassFile.FieldType)).before args0 about1 = true := code_word (m := ⟨0, 0⟩) (meth := k0m0) (c := k0c0) (by decide +kernel) rfl rfl rfl (by decide +kernel)
set_option maxRecDepth 65536 in
theorem w_c4 : (Jvm.Cond.code ({ cls := "com/example/cardwarden/cardwarden/MemoryBytes", name := "figures", desc := "()[J" } : Jvm.MethodName) prog_34_method_5_code (1 : Nat) (Option.some (Jvm.ClassFile.FieldType.array Jvm.ClassFile.FieldType.long))).before args0 about1 = true := code_word (m := ⟨3, 2⟩) (meth := k3m2) (c := k3c2) (by decide +kernel) rfl rfl rfl (by decide +kernel)
set_option maxRecDepth 65536 in
theorem w_c5 : (Jvm.Cond.code ({ cls := "com/example/cardwarden/cardwarden/MemoryBytes", name := "of", desc := "([J)Lcom/example/cardwarden/cardwarden/MemoryBytes;" } : Jvm.MethodName) prog_34_method_2_code (1 : Nat) (Option.some (Jvm.ClassFile.FieldType.object "com/example/cardwarden/cardwarden/MemoryBytes"))).before args0 about1 = true := code_word (m := ⟨3, 1⟩) (meth := k3m1) (c := k3c1) (by decide +kernel) rfl rfl rfl (by decide +kernel)
set_option maxRecDepth 65536 in
theorem w_c6 : (Jvm.Cond.code ({ cls := "com/example/cardwarden/cardwarden/MemoryBytes", name := "persistent", desc := "()J" } : Jvm.MethodName) prog_34_method_13_code (1 : Nat) (Option.some Jvm.ClassFile.FieldType.long)).before args0 about1 = true := code_word (m := ⟨3, 3⟩) (meth := k3m3) (c := k3c3) (by decide +kernel) rfl rfl rfl (by decide +kernel)
set_option maxRecDepth 65536 in
theorem w_c7 : (Jvm.Cond.code ({ cls := "com/example/cardwarden/cardwarden/MemoryBytes", name := "transientBytes", desc := "()J" } : Jvm.MethodName) prog_34_method_14_code (1 : Nat) (Option.some Jvm.ClassFile.FieldType.long)).before args0 about1 = true := code_word (m := ⟨3, 4⟩) (meth := k3m4) (c := k3c4) (by decide +kernel) rfl rfl rfl (by decide +kernel)
set_option maxRecDepth 65536 in
theorem w_c8 : (Jvm.Cond.code ({ cls := "com/example/cardwarden/cardwarden/MemoryBytes", name := "commitBuffer", desc := "()J" } : Jvm.MethodName) prog_34_method_15_code (1 : Nat) (Option.some Jvm.ClassFile.FieldType.long)).before args0 about1 = true := code_word (m := ⟨3, 5⟩) (meth := k3m5) (c := k3c5) (by decide +kernel) rfl rfl rfl (by decide +kernel)
def codes1 : List Jvm.Cond := [Jvm.Cond.code x code maxLocals ret, Jvm.Cond.code ({ cls := "com/example/cardwarden/cardwarden/MemoryBytes", name := "<init>", desc := "(JJJ)V" } : Jvm.MethodName) prog_34_method_1_code (7 : Nat) (Option.none : Option Jvm.ClassFile.FieldType), Jvm.Cond.code ({ cls := "java/lang/Record", name := "<init>", desc := "()V" } : Jvm.MethodName) jdk_30_method_1_code (1 : Nat) (Option.none : Option Jvm.ClassFile.FieldType), Jvm.Cond.code ({ cls := "java/lang/Object", name := "<init>", desc := "()V" } : Jvm.MethodName) object_method_1_code (1 : Nat) (Option.none : Option Jvm.ClassFile.FieldType), Jvm.Cond.code ({ cls := "com/example/cardwarden/cardwarden/MemoryBytes", name := "figures", desc := "()[J" } : Jvm.MethodName) prog_34_method_5_code (1 : Nat) (Option.some (Jvm.ClassFile.FieldType.array Jvm.ClassFile.FieldType.long)), Jvm.Cond.code ({ cls := "com/example/cardwarden/cardwarden/MemoryBytes", name := "of", desc := "([J)Lcom/example/cardwarden/cardwarden/MemoryBytes;" } : Jvm.MethodName) prog_34_method_2_code (1 : Nat) (Option.some (Jvm.ClassFile.FieldType.object "com/example/cardwarden/cardwarden/MemoryBytes")), Jvm.Cond.code ({ cls := "com/example/cardwarden/cardwarden/MemoryBytes", name := "persistent", desc := "()J" } : Jvm.MethodName) prog_34_method_13_code (1 : Nat) (Option.some Jvm.ClassFile.FieldType.long), Jvm.Cond.code ({ cls := "com/example/cardwarden/cardwarden/MemoryBytes", name := "transientBytes", desc := "()J" } : Jvm.MethodName) prog_34_method_14_code (1 : Nat) (Option.some Jvm.ClassFile.FieldType.long), Jvm.Cond.code ({ cls := "com/example/cardwarden/cardwarden/MemoryBytes", name := "commitBuffer", desc := "()J" } : Jvm.MethodName) prog_34_method_15_code (1 : Nat) (Option.some Jvm.ClassFile.FieldType.long)]
set_option maxRecDepth 65536 in
theorem codes_eq : words1.filter isCode = codes1 := rfl
theorem w_codes : ∀ c ∈ words1.filter isCode, c.before args0 about1 = true := by
  rw [codes_eq]
  intro c hc
  simp only [codes1, List.mem_cons, List.not_mem_nil, or_false] at hc
  rcases hc with rfl | rfl | rfl | rfl | rfl | rfl | rfl | rfl | rfl
  · exact w_c0
  · exact w_c1
  · exact w_c2
  · exact w_c3
  · exact w_c4
  · exact w_c5
  · exact w_c6
  · exact w_c7
  · exact w_c8
set_option maxRecDepth 65536 in
theorem w_t1 : (words1.take 24).all (fun c => isCode c || c.before args0 about1) = true := by decide +kernel
set_option maxRecDepth 65536 in
theorem w_t2 : (words1.drop 24).all (fun c => isCode c || c.before args0 about1) = true := by decide +kernel
theorem w_tables : (allAtoms (Jvm.Cond.code x code maxLocals ret :: tables_1)).before args0 about1 = true := by
  rw [allAtoms_all]
  show words1.all (fun c => c.before args0 about1) = true
  refine all_split ?_ w_codes
  rw [← List.take_append_drop 24 words1, List.all_append, w_t1, w_t2]
  rfl
set_option maxRecDepth 65536 in
theorem w_case : (Jvm.Cond.and given_1 narrow_1).before args0 about1 = true := by decide +kernel
theorem w_applies : (headSpec (Jvm.Cond.code x code maxLocals ret :: tables_1) room_1).applies x e0.platform about1 = true :=
  (Spec.applies_iff w_frames).mpr ⟨w_running, w_runnable, w_alone, w_named, w_hears, w_ripe, w_room, w_tables⟩
theorem atStart : AtStart classFile x code maxLocals ret World_1 tables_1 room_1 Calls_1 rest_1 Pre_1 launch0 p0 e0 about1 theMethod args0 below0 :=
  ⟨lists_1, trivial, launch0.admits_env _ _ _, launch0.least_env, fairChoices_fair.cas, fairChoices_fair.clock, w_frames, w_args, w_heap, w_applies, trivial, trivial, w_case⟩
end start1
theorem witness_1 : WitnessClaimed_1 := ⟨start1.p0, start1.e0, start1.about1, start1.theMethod, start1.args0, start1.below0, start1.atStart⟩
end Jvm.Pilot.@@N@@
