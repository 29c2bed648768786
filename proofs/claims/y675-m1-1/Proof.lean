import JvmDerived
import JvmDerived.Pilot.@@N@@Statement
import JvmDerived.Pilot.@@N@@Code
set_option linter.unusedVariables false
set_option linter.unusedSimpArgs false
namespace Jvm.OwnKit
open Sem ClassFile Op Lib Jvm.Stand Jvm.Free Jvm.LawKit Jvm.RoadKit
/-! A small layer of my own over the library's laws: 'Goes': from this frame the body comes to its end; each law turned so that it reads backwards. -/
def Goes (tb : Tables) (e : Env) (below : List Frame) (Φ : Outcome → State → Prop) (T : State) (f : JFrame) : Prop :=
  ∃ s₂ o, Steps tb e below (T.setTop f) s₂ ∧ s₂.status = .running ∧ Ended s₂ below o ∧ Φ o s₂
def Fine (s : State) (n0 : Nat) (Q : Option Value → Heap → Prop) (rc rs : Nat) (o : Outcome) (U : State) : Prop :=
  ∃ v L, o = .returned v ∧ (Fr n0 L ∧ Q v U.heap) ∧ FrameEnd s o U L rc rs
def Base (p : Program) (s : State) (m : MethodId) (meth : Method) (c : Code) (Z : State) (y : MethodName) (bytes : ByteArray) (maxL : Nat) (ret : Option FieldType) : Prop :=
  p.tables.exec = Jvm.exec ∧ Z.Warmed39 s.vm ∧ c.code = bytes ∧ c.maxLocals = maxL ∧ s.vm.findClass y.cls = some m.cls ∧ meth.name = y.name ∧ meth.sig.returnType = ret ∧ meth.locks = false
def Sd (p : Program) (l : Launch) (e : Env) (R : Room) (s : State) (m : MethodId) (args : Array Value) (below : List Frame) (meth : Method) (c : Code) (T : State) (h : Heap) (n0 cells slots : Nat) : Prop :=
  ∃ locs, Stand p l e R s m args below meth c T locs cells slots ∧ T.heap = h ∧ Fr n0 locs ∧ n0 ≤ s.heap.size
def Con (l : Launch) (Z : State) (y : MethodName) (bytes : ByteArray) (maxL : Nat) (ret : Option FieldType) (rm : Room) (as' : Array Value) (h0 : Heap) (n0 : Nat) (Q : Option Value → Heap → Prop) : Prop :=
  n0 ≤ h0.size → ∀ ws : List Cond, MetFree l y (head1 (Cond.code y bytes maxL ret :: ws) rm) (fun a U => a = as' ∧ Z.Warmed39 U.vm ∧ U.heap = h0) (fun _ _ _ _ _ => True) (fun _ U o U' => ∃ v L, o = .returned v ∧ (Fr n0 L ∧ Q v U'.heap) ∧ FrameEnd U o U' L rm.cells rm.slots)
/-! a condition as 1 or 0 -/
def bi (P : Prop) [Decidable P] : Int32 := if P then 1 else 0
theorem bi_pos {P : Prop} [Decidable P] (h : P) : bi P = 1 := if_pos h
theorem bi_neg {P : Prop} [Decidable P] (h : ¬ P) : bi P = 0 := if_neg h
theorem bi_ne {P : Prop} [Decidable P] (h : P) : ¬ bi P = 0 := by rw [bi_pos h]; decide
theorem bi_congr {P P' : Prop} [Decidable P] [Decidable P'] (h : P ↔ P') : bi P = bi P' := by by_cases q : P <;> simp [bi, q, h.mp, ← h]
theorem bi_one {P : Prop} [Decidable P] : bi P = 1 ↔ P := by by_cases q : P <;> simp [bi, q]
theorem bi_zero {P : Prop} [Decidable P] : bi P = 0 ↔ ¬ P := by by_cases q : P <;> simp [bi, q]
theorem bi_inj {P P' : Prop} [Decidable P] [Decidable P'] : bi P = bi P' ↔ (P ↔ P') := by by_cases q : P <;> by_cases q' : P' <;> simp [bi, q, q']
theorem bi_or {P : Prop} [Decidable P] : bi P = 0 ∨ bi P = 1 := by by_cases q : P <;> simp [bi, q]
theorem nar_bi {P : Prop} [Decidable P] : nar .boolean (bi P) = bi P := by by_cases q : P <;> simp [bi, q, nar]
theorem fits_bi {P : Prop} [Decidable P] : fits .boolean (.int (bi P)) = true := by by_cases q : P <;> simp [bi, q] <;> decide
theorem narrow_bi {P : Prop} [Decidable P] : narrow .boolean (.int (bi P)) = .int (bi P) := by by_cases q : P <;> simp [bi, q] <;> rfl
section Lay
variable {p : Program} {l : Launch} {e : Env} {R : Room} {s : State} {m : MethodId} {args : Array Value} {below : List Frame} {meth : Method} {c : Code} {T : State} {h : Heap} {n0 cells slots : Nat} {Z : State} {a0 : Array Value} {Φ : Outcome → State → Prop} {y0 : MethodName} {bytes0 : ByteArray} {maxL0 : Nat} {ret0 : Option FieldType} {pc : Nat} {Ls : Array Slot} {st rest : List Value}
theorem Goes.go {tb : Tables} {T' : State} {f f' : JFrame} (k : ∀ t, Steps tb e below (T'.setTop f') t → Steps tb e below (T.setTop f) t) (g : Goes tb e below Φ T' f') : Goes tb e below Φ T f := by
  obtain ⟨s2, o, h1, h2⟩ := g
  exact ⟨s2, o, k _ h1, h2⟩
theorem Goes.dia {tb : Tables} {P : Prop} [Decidable P] {f : JFrame} {mk : Int32 → JFrame} (h1 : P → Goes tb e below Φ T (mk 1) → Goes tb e below Φ T f) (h0 : ¬ P → Goes tb e below Φ T (mk 0) → Goes tb e below Φ T f) (k : Goes tb e below Φ T (mk (bi P))) : Goes tb e below Φ T f := by
  by_cases q : P
  · rw [bi_pos q] at k; exact h1 q k
  · rw [bi_neg q] at k; exact h0 q k
theorem Goes.cast {tb : Tables} {f f' : JFrame} (q : f = f') (g : Goes tb e below Φ T f') : Goes tb e below Φ T f := q ▸ g
theorem Sd.here (S : Sd p l e R s m args below meth c T h n0 cells slots) : At T m c below := by obtain ⟨_, X, -⟩ := S; exact X.here
theorem Sd.le (S : Sd p l e R s m args below meth c T h n0 cells slots) : n0 ≤ h.size := by
  obtain ⟨_, X, e, -, q⟩ := S
  have h1 := X.same.2.1
  have h2 : s.heap.size ≤ T.heap.size := h1
  rw [e] at h2
  exact Nat.le_trans q h2
theorem Base.x (B : Base p s m meth c Z y0 bytes0 maxL0 ret0) : p.tables.exec = Jvm.exec := B.1
theorem Base.d (B : Base p s m meth c Z y0 bytes0 maxL0 ret0) {r : Except DecodeError (Instr × Nat)} (hd : decode bytes0 pc = r) : decode c.code pc = r := B.2.2.1 ▸ hd
theorem Con.body {y : MethodName} {bytes : ByteArray} {maxL : Nat} {ret : Option FieldType} {rm : Room} {as' : Array Value} {h0 : Heap} {Q : Option Value → Heap → Prop} (hpl : plainFor y = true)
    (k : ∀ (p : Program) (e : Env) (s : State) (m : MethodId) (below : List Frame) (meth : Method) (c : Code) (T : State), Base p s m meth c Z y bytes maxL ret → Sd p l e rm s m as' below meth c T h0 n0 0 0 → Goes p.tables e below (Fine s n0 Q rm.cells rm.slots) T (entryFrame m as' maxL)) :
    Con l Z y bytes maxL ret rm as' h0 n0 Q := by
  intro hn ws
  refine MetFree.of_bodySF hpl hisR ?_
  intro p e s m args below meth c s₁ Bd hml0 hP hK
  obtain ⟨rfl, hZ, hh⟩ := hP
  have e0 : s₁.heap = h0 := by rw [← hh, Bd.state]; rfl
  exact k p e s m below meth c s₁ ⟨Bd.exec, hZ, Bd.bytes, hml0, findClass_of_methodNamed Bd.named, (name_of_methodNamed Bd.named Bd.method).1, Bd.returns, Bd.notSynchronized⟩ ⟨[], Stand.of_body Bd, e0, Fr.nil n0, by rw [hh]; exact hn⟩
theorem Goes.acmp {cd : ACond} {x y : Value} {o : Int} {pc' : Nat} {same : Bool} (S : Sd p l e R s m args below meth c T h n0 cells slots) (B : Base p s m meth c Z y0 bytes0 maxL0 ret0) (h1 : x.isRef = true) (h2 : y.isRef = true) (hd : decode bytes0 pc = .ok (.if_acmp cd o, 3)) (hq : decide (x = y) = same) (ho : 0 ≤ (pc : Int) + o) (hp : pc' = if acV cd same = true then ((pc : Int) + o).toNat else pc + 3)
    (k : Goes p.tables e below Φ T (mkF m pc' Ls rest)) : Goes p.tables e below Φ T (mkF m pc Ls (y :: x :: rest)) := by
  obtain ⟨locs, X, eT, N, hn⟩ := S
  exact Goes.go (fun t => RoadKit.acmp X B.1 (g := mkF m pc Ls (y :: x :: rest)) rfl h1 h2 (pc0 := pc) (pc' := pc') (same := same) rfl (B.d hd) rfl hq ho hp) k
theorem Goes.pop2L {z : Int64} (S : Sd p l e R s m args below meth c T h n0 cells slots) (B : Base p s m meth c Z y0 bytes0 maxL0 ret0) (hd : decode bytes0 pc = .ok (.pop2, 1)) (k : Goes p.tables e below Φ T (mkF m (pc + 1) Ls rest)) : Goes p.tables e below Φ T (mkF m pc Ls (.long z :: rest)) := by
  obtain ⟨locs, X, eT, N, hn⟩ := S
  refine Goes.go (fun t kk => ?_) k
  have hx := B.1
  have hd' := B.d hd
  show Steps p.tables e below (T.setTop { method := m, pc := pc, locals := Ls, stack := _ :: rest, locked := none }) _
  jvm_step X.here [X.here.top, hx, hd', Value.category]
  exact kk
theorem Goes.irem {x y : Int32} (S : Sd p l e R s m args below meth c T h n0 cells slots) (B : Base p s m meth c Z y0 bytes0 maxL0 ret0) (hd : decode bytes0 pc = .ok (.irem, 1)) (hy : y ≠ 0) (k : Goes p.tables e below Φ T (mkF m (pc + 1) Ls (.int (x % y) :: rest))) : Goes p.tables e below Φ T (mkF m pc Ls (.int y :: .int x :: rest)) := by
  obtain ⟨locs, X, eT, N, hn⟩ := S
  exact Goes.go (fun t => RoadKit.iremM X B.1 (g := mkF m pc Ls (.int y :: .int x :: rest)) rfl (B.d hd) rfl hy) k
theorem Goes.lrem {x y : Int64} (S : Sd p l e R s m args below meth c T h n0 cells slots) (B : Base p s m meth c Z y0 bytes0 maxL0 ret0) (hd : decode bytes0 pc = .ok (.lrem, 1)) (hy : y ≠ 0) (k : Goes p.tables e below Φ T (mkF m (pc + 1) Ls (.long (x % y) :: rest))) : Goes p.tables e below Φ T (mkF m pc Ls (.long y :: .long x :: rest)) := by
  obtain ⟨locs, X, eT, N, hn⟩ := S
  refine Goes.go (fun t kk => XS.lrem X.here B.1 (g := mkF m pc Ls (.long y :: .long x :: rest)) rfl (B.d hd) rfl hy ?_) k
  rw [lrem_mod]
  exact kk
/-! the ends -/
section Ends
variable {Q : Option Value → Heap → Prop} {rc rs : Nat}
theorem Goes.retV (S : Sd p l e R s m args below meth c T h n0 cells slots) (B : Base p s m meth c Z y0 bytes0 maxL0 none) (hd : decode bytes0 pc = .ok (.return_, 1)) (hc : cells ≤ rc) (hs : slots ≤ rs) (hq : Q none h) :
    Goes p.tables e below (Fine s n0 Q rc rs) T (mkF m pc Ls []) := by
  obtain ⟨locs, X, eT, N, -⟩ := S
  obtain ⟨fs, hr, hrun, hended, hW, hsame⟩ := X.leave (v := none) (fun _ => rfl) B.2.2.2.2.2.2.2
  subst eT
  exact ⟨_, _, X.returnOut B.1 B.2.2.2.2.2.2.1 (B.d hd) hr, hrun, hended, _, _, rfl, ⟨N, hq⟩, ⟨_, rfl⟩, hW, hsame.mono hc hs⟩
theorem Goes.retN {t : FieldType} {z : Int32} (S : Sd p l e R s m args below meth c T h n0 cells slots) (B : Base p s m meth c Z y0 bytes0 maxL0 (some t)) (ht : t = .boolean ∨ t = .byte ∨ t = .char ∨ t = .short) (hd : decode bytes0 pc = .ok (.ireturn, 1)) (hc : cells ≤ rc) (hs : slots ≤ rs) (hq : Q (some (.int (nar t z))) h) :
    Goes p.tables e below (Fine s n0 Q rc rs) T (mkF m pc Ls (.int z :: rest)) := by
  obtain ⟨locs, X, eT, N, -⟩ := S
  obtain ⟨fs, hr, hrun, hended, hW, hsame⟩ := X.leave (v := some (.int (nar t z))) (fun h => by rw [B.2.2.2.2.2.2.1] at h; cases h) B.2.2.2.2.2.2.2
  subst eT
  exact ⟨_, _, RoadKit.retN X B.1 B.2.2.2.2.2.2.1 ht (B.d hd) hr, hrun, hended, _, _, rfl, ⟨N, hq⟩, ⟨_, rfl⟩, hW, hsame.mono hc hs⟩
theorem Goes.retI {z : Int32} (S : Sd p l e R s m args below meth c T h n0 cells slots) (B : Base p s m meth c Z y0 bytes0 maxL0 (some .int)) (hd : decode bytes0 pc = .ok (.ireturn, 1)) (hc : cells ≤ rc) (hs : slots ≤ rs) (hq : Q (some (.int z)) h) :
    Goes p.tables e below (Fine s n0 Q rc rs) T (mkF m pc Ls (.int z :: rest)) := by
  obtain ⟨locs, X, eT, N, -⟩ := S
  obtain ⟨fs, hr, hrun, hended, hW, hsame⟩ := X.leave (v := some (.int z)) (fun h => by rw [B.2.2.2.2.2.2.1] at h; cases h) B.2.2.2.2.2.2.2
  subst eT
  refine ⟨_, _, ?_, hrun, hended, _, _, rfl, ⟨N, hq⟩, ⟨_, rfl⟩, hW, hsame.mono hc hs⟩
  have hm' : T.vm.method? m = some meth := X.method'
  have hn : narrow .int (.int z) = .int z := rfl
  have hx := B.1
  have hret := B.2.2.2.2.2.2.1
  have hd' := B.d hd
  show Steps p.tables e below (T.setTop { method := m, pc := pc, locals := Ls, stack := _ :: rest, locked := none }) _
  jvm_step X.here [X.here.top, hx, hd', hm', hret, hn]
  first | (intro acts; rw [hr _ acts rfl rfl rfl]) | rw [hr _ _ rfl rfl rfl]
  exact Steps.refl _
theorem Goes.retL {z : Int64} (S : Sd p l e R s m args below meth c T h n0 cells slots) (B : Base p s m meth c Z y0 bytes0 maxL0 (some .long)) (hd : decode bytes0 pc = .ok (.lreturn, 1)) (hc : cells ≤ rc) (hs : slots ≤ rs) (hq : Q (some (.long z)) h) :
    Goes p.tables e below (Fine s n0 Q rc rs) T (mkF m pc Ls (.long z :: rest)) := by
  obtain ⟨locs, X, eT, N, -⟩ := S
  obtain ⟨fs, hr, hrun, hended, hW, hsame⟩ := X.leave (v := some (.long z)) (fun h => by rw [B.2.2.2.2.2.2.1] at h; cases h) B.2.2.2.2.2.2.2
  subst eT
  refine ⟨_, _, ?_, hrun, hended, _, _, rfl, ⟨N, hq⟩, ⟨_, rfl⟩, hW, hsame.mono hc hs⟩
  have hm' : T.vm.method? m = some meth := X.method'
  have hx := B.1
  have hret := B.2.2.2.2.2.2.1
  have hd' := B.d hd
  show Steps p.tables e below (T.setTop { method := m, pc := pc, locals := Ls, stack := _ :: rest, locked := none }) _
  jvm_step X.here [X.here.top, hx, hd', hm', hret, narrow]
  first | (intro acts; rw [hr _ acts rfl rfl rfl]) | rw [hr _ _ rfl rfl rfl]
  exact Steps.refl _
theorem Goes.retA {b : Addr} {t : FieldType} (S : Sd p l e R s m args below meth c T h n0 cells slots) (B : Base p s m meth c Z y0 bytes0 maxL0 (some t)) (ht : t.isReference = true) (hd : decode bytes0 pc = .ok (.areturn, 1)) (hc : cells ≤ rc) (hs : slots ≤ rs) (hq : Q (some (.ref b)) h) :
    Goes p.tables e below (Fine s n0 Q rc rs) T (mkF m pc Ls (.ref b :: rest)) := by
  obtain ⟨locs, X, eT, N, -⟩ := S
  obtain ⟨fs, hr, hrun, hended, hW, hsame⟩ := X.leave (v := some (.ref b)) (fun h => by rw [B.2.2.2.2.2.2.1] at h; cases h) B.2.2.2.2.2.2.2
  subst eT
  refine ⟨_, _, ?_, hrun, hended, _, _, rfl, ⟨N, hq⟩, ⟨_, rfl⟩, hW, hsame.mono hc hs⟩
  have hm' : T.vm.method? m = some meth := X.method'
  have hx := B.1
  have hret := B.2.2.2.2.2.2.1
  have hd' := B.d hd
  show Steps p.tables e below (T.setTop { method := m, pc := pc, locals := Ls, stack := _ :: rest, locked := none }) _
  jvm_step X.here [X.here.top, hx, hd', hm', hret, Value.isRef, ht]
  first | (intro acts; rw [hr _ acts rfl rfl rfl]) | rw [hr _ _ rfl rfl rfl]
  exact Steps.refl _
end Ends
/-! fields and objects -/
theorem Goes.getF {O n d : String} {index : Nat} {a : Addr} {v : Value} (S : Sd p l e R s m args below meth c T h n0 cells slots) (B : Base p s m meth c Z y0 bytes0 maxL0 ret0) (w : (Cond.fieldLink y0.cls index O n d).before a0 Z = true) (F : Fld Z h a O n d v) (hd : decode bytes0 pc = .ok (.getfield index, 3))
    (k : ∀ T', Sd p l e R s m args below meth c T' h n0 cells slots → Goes p.tables e below Φ T' (mkF m (pc + 3) Ls (v :: rest))) : Goes p.tables e below Φ T (mkF m pc Ls (.ref a :: rest)) := by
  obtain ⟨locs, X, eT, N, hn⟩ := S
  obtain ⟨T', X', e', stp⟩ := RoadKit.getF X B.1 B.2.1 B.2.2.2.2.1 (host := "") (Or.inl w) Via.refl eT F (g := mkF m pc Ls (.ref a :: rest)) rfl rfl (B.d hd)
  exact Goes.go stp (k T' ⟨locs, X', e', N, hn⟩)
theorem Goes.putF {O n d C : String} {index kk : Nat} {ty : FieldType} {a : Addr} {v v' old : Value} (S : Sd p l e R s m args below meth c T h n0 cells slots) (B : Base p s m meth c Z y0 bytes0 maxL0 ret0) (w : (Cond.fieldLink y0.cls index O n d).before a0 Z = true) (F : Fld Z h a O n d old) (E : Exa Z h a C)
    (L : (Cond.lays C O n d).before a0 Z = true ∨ ((Cond.laysFinal C O n d).before a0 Z = true ∧ y0.cls = O ∧ y0.name = "<init>")) (wi : (Cond.instantiable C kk).before a0 Z = true) (hty : parseFieldDescriptor d = some ty) (hnr : narrow ty v = v') (hf : fits ty v' = true) (ga : n0 ≤ a) (hd : decode bytes0 pc = .ok (.putfield index, 3))
    (k : ∀ T' h', Sd p l e R s m args below meth c T' h' n0 cells slots → Wr h h' a (RoadKit.slotOf Z O n d) v' → Goes p.tables e below Φ T' (mkF m (pc + 3) Ls rest)) : Goes p.tables e below Φ T (mkF m pc Ls (v :: .ref a :: rest)) := by
  obtain ⟨locs, X, eT, N, hn⟩ := S
  obtain ⟨T', h', X', e', W, stp⟩ := RoadKit.putFN X B.1 B.2.1 B.2.2.2.2.1 w Via.refl eT F E (L.imp id fun q => ⟨q.1, q.2.1, B.2.2.2.2.2.1.trans q.2.2⟩) wi hty hnr hf (g := mkF m pc Ls (v :: .ref a :: rest)) rfl rfl (B.d hd)
  exact Goes.go stp (k T' h' ⟨_, X', e', Fr.snoc X' N ga, hn⟩ W)
theorem Goes.newO {C : String} {index nn : Nat} (S : Sd p l e R s m args below meth c T h n0 cells slots) (B : Base p s m meth c Z y0 bytes0 maxL0 ret0) (w : (Cond.classLink y0.cls index C).before a0 Z = true) (wi : (Cond.instantiable C nn).before a0 Z = true) (wz : (Cond.initialized C).before a0 Z = true) (hd : decode bytes0 pc = .ok (.new index, 3)) (hc : cells + 1 ≤ R.cells) (hl : slots + nn ≤ R.slots)
    (k : ∀ T' h' b, Sd p l e R s m args below meth c T' h' n0 (cells + 1) (slots + nn) → Ext h h' → b = h.size → n0 ≤ b → Exa Z h' b C → (∀ {O nm d : String} {ty : FieldType}, Laid Z a0 C O nm d → parseFieldDescriptor d = some ty → Fld Z h' b O nm d (defaultValue ty)) → Goes p.tables e below Φ T' (mkF m (pc + 3) Ls (.ref b :: st))) :
    Goes p.tables e below Φ T (mkF m pc Ls st) := by
  have hle := S.le
  obtain ⟨locs, X, eT, N, hn⟩ := S
  obtain ⟨T', h', X', e', E, A, D, -, stp⟩ := RoadKit.newO X B.1 B.2.1 B.2.2.2.2.1 w wi wz eT (g := mkF m pc Ls st) rfl (B.d hd) hc hl
  exact Goes.go stp (k T' h' h.size ⟨locs, X', e', N, hn⟩ E rfl hle A D)
theorem Goes.initO {index : Nat} {a : Addr} {W : Nat} (S : Sd p l e R s m args below meth c T h n0 cells slots) (B : Base p s m meth c Z y0 bytes0 maxL0 ret0) (w1 : (Cond.methodLink y0.cls index Lib.objectInit).before a0 Z = true) (w2 : (Cond.instanceMethod Lib.objectInit).before a0 Z = true) (w3 : (Cond.code Lib.objectInit ⟨#[0xb1]⟩ 1 none).before a0 Z = true)
    (hd : decode bytes0 pc = .ok (.invokespecial index, 3)) (hsz : Ls.size = maxL0) (hf : 1 ≤ R.frames) (hW : 2 * 0 + (rest.map fun v => v.category).sum ≤ W) (hl : W + 12 ≤ R.locals)
    (k : ∀ T', Sd p l e R s m args below meth c T' h n0 cells slots → Goes p.tables e below Φ T' (mkF m (pc + 3) Ls rest)) : Goes p.tables e below Φ T (mkF m pc Ls (.ref a :: rest)) := by
  obtain ⟨locs, X, eT, N, hn⟩ := S
  obtain ⟨T', X', e', stp⟩ := RoadKit.initO X B.1 B.2.1 B.2.2.2.2.1 w1 w2 w3 eT (g := mkF m pc Ls (.ref a :: rest)) rfl (by rw [B.2.2.2.1]; exact hsz) rfl (B.d hd) hf hW hl
  exact Goes.go stp (k T' ⟨locs, X', e', N, hn⟩)
theorem Goes.ldcI {index : Nat} {v : Int32} (S : Sd p l e R s m args below meth c T h n0 cells slots) (B : Base p s m meth c Z y0 bytes0 maxL0 ret0) (w : (Cond.constant y0.cls index v).before a0 Z = true) (hd : decode bytes0 pc = .ok (.ldc index, 2)) (k : Goes p.tables e below Φ T (mkF m (pc + 2) Ls (.int v :: st))) : Goes p.tables e below Φ T (mkF m pc Ls st) := by
  obtain ⟨locs, X, eT, N, hn⟩ := S
  exact Goes.go (X.ldcInt B.1 B.2.2.2.2.1 (mvT B.2.1 w) (g := mkF m pc Ls st) rfl (B.d hd)) k
theorem Goes.ldcL {index : Nat} {v : Int64} (S : Sd p l e R s m args below meth c T h n0 cells slots) (B : Base p s m meth c Z y0 bytes0 maxL0 ret0) (w : (Cond.constantLong y0.cls index v).before a0 Z = true) (hd : decode bytes0 pc = .ok (.ldc2_w index, 3)) (k : Goes p.tables e below Φ T (mkF m (pc + 3) Ls (.long v :: st))) : Goes p.tables e below Φ T (mkF m pc Ls st) := by
  obtain ⟨locs, X, eT, N, hn⟩ := S
  exact Goes.go (X.ldc2Long B.1 B.2.2.2.2.1 (mvT B.2.1 w) (g := mkF m pc Ls st) rfl (B.d hd)) k
/-! calls -/
section Calls
variable {y : MethodName} {bytes : ByteArray} {maxL : Nat} {ret : Option FieldType} {rm : Room} {index W : Nat} {argsL : List Value} {Q : Option Value → Heap → Prop}
theorem Con.back {as' : Array Value} {len : Nat} (C : Con l Z y bytes maxL ret rm as' h n0 Q) (hn : n0 ≤ h.size) (hZ : Z.Warmed39 s.vm) (wc : (Cond.code y bytes maxL ret).before a0 Z = true) (wz : (Cond.initialized y.cls).before a0 Z = true) (hf : rm.frames + 1 ≤ R.frames) (hl : W + (maxL + 11) + rm.locals ≤ R.locals) :
    Back l R p e below s args y len W (fun A a => a = as' ∧ A.U.heap = h ∧ A.cells + rm.cells ≤ R.cells ∧ A.slots + rm.slots ≤ R.slots)
      (fun A _ v B => ∃ L, (Fr n0 L ∧ Q v B.U.heap) ∧ B.locs = A.locs ++ L ∧ B.cells = A.cells + rm.cells ∧ B.slots = A.slots + rm.slots) :=
  backOf (Q := fun v h L => Fr n0 L ∧ Q v h) (C hn []) hZ wc wz hf hl
theorem Goes.callS (S : Sd p l e R s m args below meth c T h n0 cells slots) (B : Base p s m meth c Z y0 bytes0 maxL0 ret0) (C : Con l Z y bytes maxL ret rm argsL.toArray h n0 Q) (wl : (Cond.methodLink y0.cls index y).before a0 Z = true) (ws : (Cond.static y).before a0 Z = true) (wi : (Cond.initialized y.cls).before a0 Z = true) (wc : (Cond.code y bytes maxL ret).before a0 Z = true)
    (hy : y.cls ≠ "java/lang/invoke/MethodHandle" ∧ y.cls ≠ "java/lang/invoke/VarHandle") (hf : rm.frames + 1 ≤ R.frames) (hlo : W + (maxL + 11) + rm.locals ≤ R.locals) (hc : cells + rm.cells ≤ R.cells) (hs : slots + rm.slots ≤ R.slots) (hsz : Ls.size = maxL0)
    (hlen : ∀ sig, parseMethodDescriptor y.desc = some sig → argsL.length = sig.parameters.length) (hst : st = argsL.reverse ++ rest) (hW : 2 * 0 + (rest.map fun v => v.category).sum ≤ W) (hd : decode bytes0 pc = .ok (.invokestatic index, 3))
    (k : ∀ v T' h', Sd p l e R s m args below meth c T' h' n0 (cells + rm.cells) (slots + rm.slots) → Q v h' → Goes p.tables e below Φ T' (mkF m (pc + 3) Ls (v.toList ++ rest))) : Goes p.tables e below Φ T (mkF m pc Ls st) := by
  have hle := S.le
  obtain ⟨locs, X, eT, N, hn⟩ := S
  subst hst
  obtain ⟨v, _, ⟨T', L', k', n'⟩, -, X', ⟨Lc, ⟨hN, hQ⟩, l1, y1, z1⟩, stp⟩ := Jvm.LawKit.callS X B.1 (y := y) B.2.2.2.2.1 (mvT B.2.1 wl) (mvT B.2.1 ws) (mvT B.2.1 wi) (mvT B.2.1 wc) hy (Con.back (W := W) C hle B.2.1 wc wi hf hlo) (g := mkF m pc Ls (argsL.reverse ++ rest)) rfl (by rw [B.2.2.2.1]; exact hsz) (argsL := argsL) (rest := rest) hlen rfl hW (B.d hd) (fun _ _ => ⟨rfl, eT, hc, hs⟩)
  dsimp only [Pt.U, Pt.locs, Pt.cells, Pt.slots] at X' l1 y1 z1 stp hQ
  subst l1 y1 z1
  exact Goes.go stp (k v T' T'.heap ⟨_, X', rfl, N.app hN, hn⟩ hQ)
theorem Goes.callI {b : Addr} (S : Sd p l e R s m args below meth c T h n0 cells slots) (B : Base p s m meth c Z y0 bytes0 maxL0 ret0) (C : Con l Z y bytes maxL none rm (.ref b :: argsL).toArray h n0 Q) (wl : (Cond.methodLink y0.cls index y).before a0 Z = true) (wim : (Cond.instanceMethod y).before a0 Z = true) (wi : (Cond.initialized y.cls).before a0 Z = true) (wc : (Cond.code y bytes maxL none).before a0 Z = true)
    (hy : y.cls ≠ "java/lang/invoke/MethodHandle" ∧ y.cls ≠ "java/lang/invoke/VarHandle") (hni : y.name = "<init>") (hf : rm.frames + 1 ≤ R.frames) (hlo : W + (maxL + 11) + rm.locals ≤ R.locals) (hc : cells + rm.cells ≤ R.cells) (hs : slots + rm.slots ≤ R.slots) (hsz : Ls.size = maxL0)
    (hlen : ∀ sig, parseMethodDescriptor y.desc = some sig → argsL.length = sig.parameters.length) (hst : st = argsL.reverse ++ .ref b :: rest) (hW : 2 * 0 + (rest.map fun v => v.category).sum ≤ W) (hd : decode bytes0 pc = .ok (.invokespecial index, 3))
    (k : ∀ v T' h', Sd p l e R s m args below meth c T' h' n0 (cells + rm.cells) (slots + rm.slots) → Q v h' → Goes p.tables e below Φ T' (mkF m (pc + 3) Ls (v.toList ++ rest))) : Goes p.tables e below Φ T (mkF m pc Ls st) := by
  have hle := S.le
  obtain ⟨locs, X, eT, N, hn⟩ := S
  subst hst
  obtain ⟨v, _, ⟨T', L', k', n'⟩, -, X', ⟨Lc, ⟨hN, hQ⟩, l1, y1, z1⟩, stp⟩ := X.specialBack B.1 (y := y) hni B.2.2.2.2.1 (mvT B.2.1 wl) (mvT B.2.1 wim) (mvT B.2.1 wc) hy (Con.back (W := W) C hle B.2.1 wc wi hf hlo) (g := mkF m pc Ls (argsL.reverse ++ .ref b :: rest)) rfl (by rw [B.2.2.2.1]; exact hsz) (Steps.refl _) (a := b) (argsL := argsL) (rest := rest) hlen rfl hW (B.d hd) (fun _ _ => ⟨rfl, eT, hc, hs⟩)
  dsimp only [Pt.U, Pt.locs, Pt.cells, Pt.slots] at X' l1 y1 z1 stp hQ
  subst l1 y1 z1
  exact Goes.go (fun t q => stp.trans q) (k v T' T'.heap ⟨_, X', rfl, N.app hN, hn⟩ hQ)
theorem Goes.callV {b : Addr} {K : String} (S : Sd p l e R s m args below meth c T h n0 cells slots) (B : Base p s m meth c Z y0 bytes0 maxL0 ret0) (C : Con l Z y bytes maxL ret rm (.ref b :: argsL).toArray h n0 Q) (E : Exa Z h b K) (wl : (Cond.methodLink y0.cls index y).before a0 Z = true) (wd : (Cond.declares y).before a0 Z = true) (wsel : (Cond.selects K y y).before a0 Z = true) (wim : (Cond.instanceMethod y).before a0 Z = true) (wi : (Cond.initialized y.cls).before a0 Z = true) (wc : (Cond.code y bytes maxL ret).before a0 Z = true)
    (hy : y.cls ≠ "java/lang/invoke/MethodHandle" ∧ y.cls ≠ "java/lang/invoke/VarHandle") (hf : rm.frames + 1 ≤ R.frames) (hlo : W + (maxL + 11) + rm.locals ≤ R.locals) (hc : cells + rm.cells ≤ R.cells) (hs : slots + rm.slots ≤ R.slots) (hsz : Ls.size = maxL0)
    (hlen : ∀ sig, parseMethodDescriptor y.desc = some sig → argsL.length = sig.parameters.length) (hst : st = argsL.reverse ++ .ref b :: rest) (hW : 2 * 0 + (rest.map fun v => v.category).sum ≤ W) (hd : decode bytes0 pc = .ok (.invokevirtual index, 3))
    (k : ∀ v T' h', Sd p l e R s m args below meth c T' h' n0 (cells + rm.cells) (slots + rm.slots) → Q v h' → Goes p.tables e below Φ T' (mkF m (pc + 3) Ls (v.toList ++ rest))) : Goes p.tables e below Φ T (mkF m pc Ls st) := by
  have hle := S.le
  obtain ⟨locs, X, eT, N, hn⟩ := S
  subst hst
  obtain ⟨cq, kq, qa, qb, qc⟩ := isOf B.2.1 eT E
  obtain ⟨v, _, ⟨T', L', k', n'⟩, -, X', ⟨Lc, ⟨hN, hQ⟩, l1, y1, z1⟩, stp⟩ := X.virtualBack B.1 (y := y) (z := y) B.2.2.2.2.1 (mvT B.2.1 wl) (mvT B.2.1 wd) (notFace_of_selects (args := #[]) (mvT B.2.1 wsel)) (mvT B.2.1 wsel) (mvT B.2.1 wim) hy (Con.back (W := W) C hle B.2.1 wc wi hf hlo) qa qc (g := mkF m pc Ls (argsL.reverse ++ .ref b :: rest)) rfl (by rw [B.2.2.2.1]; exact hsz) (Steps.refl _) (argsL := argsL) (rest := rest) hlen rfl hW (B.d hd) (fun _ _ => ⟨rfl, eT, hc, hs⟩)
  dsimp only [Pt.U, Pt.locs, Pt.cells, Pt.slots] at X' l1 y1 z1 stp hQ
  subst l1 y1 z1
  exact Goes.go (fun t q => stp.trans q) (k v T' T'.heap ⟨_, X', rfl, N.app hN, hn⟩ hQ)
theorem Goes.callP {b : Addr} {K : String} (S : Sd p l e R s m args below meth c T h n0 cells slots) (B : Base p s m meth c Z y0 bytes0 maxL0 ret0) (C : Con l Z y bytes maxL ret rm (.ref b :: argsL).toArray h n0 Q) (E : Exa Z h b K) (wl : (Cond.methodLink y0.cls index y).before a0 Z = true) (wp : (Cond.privateMethod y).before a0 Z = true) {kk : Nat} (wk : (Cond.instantiable y.cls kk).before a0 Z = true) (wim : (Cond.instanceMethod y).before a0 Z = true) (wi : (Cond.initialized y.cls).before a0 Z = true) (wc : (Cond.code y bytes maxL ret).before a0 Z = true)
    (hy : y.cls ≠ "java/lang/invoke/MethodHandle" ∧ y.cls ≠ "java/lang/invoke/VarHandle") (hf : rm.frames + 1 ≤ R.frames) (hlo : W + (maxL + 11) + rm.locals ≤ R.locals) (hc : cells + rm.cells ≤ R.cells) (hs : slots + rm.slots ≤ R.slots) (hsz : Ls.size = maxL0)
    (hlen : ∀ sig, parseMethodDescriptor y.desc = some sig → argsL.length = sig.parameters.length) (hst : st = argsL.reverse ++ .ref b :: rest) (hW : 2 * 0 + (rest.map fun v => v.category).sum ≤ W) (hd : decode bytes0 pc = .ok (.invokevirtual index, 3))
    (k : ∀ v T' h', Sd p l e R s m args below meth c T' h' n0 (cells + rm.cells) (slots + rm.slots) → Q v h' → Goes p.tables e below Φ T' (mkF m (pc + 3) Ls (v.toList ++ rest))) : Goes p.tables e below Φ T (mkF m pc Ls st) := by
  have hle := S.le
  obtain ⟨locs, X, eT, N, hn⟩ := S
  subst hst
  obtain ⟨cq, q1, q2⟩ := E.cell
  have hpr : s.PrivateAt y := Cond.privateMethod_at (mvP B.2.1 wp (args := #[]))
  have wsel : (Cond.selects y.cls y y).before args s = true := by
    obtain ⟨ci, ki, i1, i2, i3, i4, -⟩ := Cond.instantiable_spec (mvT B.2.1 wk (args := args))
    exact selects_self_of_private i1 i2 (Bool.or_eq_false_iff.mp i4).1 hpr (mvT B.2.1 wim) hy
  obtain ⟨v, _, ⟨T', L', k', n'⟩, -, X', ⟨Lc, ⟨hN, hQ⟩, l1, y1, z1⟩, stp⟩ := X.privateBack B.1 (y := y) B.2.2.2.2.1 (mvT B.2.1 wl) (mvT B.2.1 wim) wsel hpr (mvT B.2.1 wc) hy (Con.back (W := W) C hle B.2.1 wc wi hf hlo) (g := mkF m pc Ls (argsL.reverse ++ .ref b :: rest)) rfl (by rw [B.2.2.2.1]; exact hsz) (Steps.refl _) (a := b) (by rw [eT]; exact q1) q2 (argsL := argsL) (rest := rest) hlen rfl hW (B.d hd) (fun _ _ => ⟨rfl, eT, hc, hs⟩)
  dsimp only [Pt.U, Pt.locs, Pt.cells, Pt.slots] at X' l1 y1 z1 stp hQ
  subst l1 y1 z1
  exact Goes.go (fun t q => stp.trans q) (k v T' T'.heap ⟨_, X', rfl, N.app hN, hn⟩ hQ)
end Calls
/-! arrays: what lies at each place, as a function -/
def Ary (Z : State) (h : Heap) (a : Addr) (ty : FieldType) (n : Nat) (f : Nat → Value) : Prop := ∃ c : Cell, Arr Z h a c ty ∧ c.slots.size = n ∧ n < 2 ^ 31 ∧ ∀ i, i < n → c.slots[i]? = some (f i)
def upd {α : Type} (f : Nat → α) (i : Nat) (v : α) : Nat → α := fun k => if k = i then v else f k
theorem upd_int (g : Nat → Int32) (k : Nat) (x : Int32) : upd (fun i => Value.int (g i)) k (.int x) = fun i => .int (upd g k x i) := by
  funext i
  simp only [upd]
  split <;> rfl
theorem upd_long (g : Nat → Int64) (k : Nat) (x : Int64) : upd (fun i => Value.long (g i)) k (.long x) = fun i => .long (upd g k x i) := by
  funext i
  simp only [upd]
  split <;> rfl
section Arrays
variable {a b : Addr} {ty : FieldType} {n : Nat} {f : Nat → Value} {h' : Heap} {j : Int32} {v : Value} {sl : Nat} {ws : List Addr}
theorem Ary.lt (A : Ary Z h a ty n f) : a < h.size := by obtain ⟨c, A, -⟩ := A; exact A.lt
theorem Ary.ext (A : Ary Z h a ty n f) (E : Ext h h') : Ary Z h' a ty n f := by obtain ⟨c, A, r⟩ := A; exact ⟨c, A.ext E, r⟩
theorem Ary.other (A : Ary Z h b ty n f) (W : Wr h h' a sl v) (q : b ≠ a) : Ary Z h' b ty n f := by obtain ⟨c, A, r⟩ := A; exact ⟨c, A.other W q, r⟩
theorem Ary.keep (A : Ary Z h a ty n f) (K : Keep h h' ws) (q : a ∉ ws) : Ary Z h' a ty n f := by obtain ⟨c, A, r⟩ := A; exact ⟨c, ⟨K.2.1 a c A.1 q, A.2⟩, r⟩
theorem Ary.cast {g : Nat → Value} (A : Ary Z h a ty n f) (q : ∀ i, i < n → f i = g i) : Ary Z h a ty n g := by obtain ⟨c, A, r1, r2, r3⟩ := A; exact ⟨c, A, r1, r2, fun i hi => by rw [r3 i hi, q i hi]⟩
theorem Ary.new {z : Int32} {k : ClassId} (A : Arr Z h a (newA k ty z) ty) (q : ¬ z < 0) : Ary Z h a ty z.toNatClampNeg (fun _ => defaultValue ty) :=
  ⟨_, A, sz_new _ _ _, (back32 q).2, fun i hi => by simp [newA, hi]⟩
theorem Ary.set {i : Nat} (A : Ary Z h a ty n f) (W : Wr h h' a i v) (hi : i < n) : Ary Z h' a ty n (upd f i v) := by
  obtain ⟨c, A, r1, r2, r3⟩ := A
  refine ⟨_, A.same W, by rw [sz_set]; exact r1, r2, fun k hk => ?_⟩
  by_cases e : k = i
  · subst e
    simp [upd, Cell.setSlot, r1, hi]
  · have e' : i ≠ k := fun q => e q.symm
    simp only [upd, if_neg e, Cell.setSlot]
    rw [Array.getElem?_setIfInBounds_ne e']
    exact r3 k hk
theorem Goes.newP {aty : ArrayType} {z : Int32} {cap : Nat} (S : Sd p l e R s m args below meth c T h n0 cells slots) (B : Base p s m meth c Z y0 bytes0 maxL0 ret0) (w : (Cond.arrayClass (newarray.typeOf aty)).before a0 Z = true) (hd : decode bytes0 pc = .ok (.newarray aty, 2)) (hz : ¬ z < 0) (hcap : z.toNatClampNeg ≤ cap) (hb : cap * 8 ≤ 536870912) (hc : cells + 1 ≤ R.cells) (hl : slots + cap ≤ R.slots)
    (k : ∀ T' h' b, Sd p l e R s m args below meth c T' h' n0 (cells + 1) (slots + cap) → Ext h h' → b = h.size → n0 ≤ b → Ary Z h' b (newarray.typeOf aty) z.toNatClampNeg (fun _ => defaultValue (newarray.typeOf aty)) → Goes p.tables e below Φ T' (mkF m (pc + 2) Ls (.ref b :: rest))) :
    Goes p.tables e below Φ T (mkF m pc Ls (.int z :: rest)) := by
  have hle := S.le
  obtain ⟨locs, X, eT, N, hn⟩ := S
  obtain ⟨T', h', k', X', e', E, A, stp⟩ := RoadKit.newP X B.1 B.2.1 w eT (g := mkF m pc Ls (.int z :: rest)) rfl (B.d hd) rfl hz hcap hb hc hl
  exact Goes.go stp (k T' h' h.size ⟨locs, X', e', N, hn⟩ E rfl hle (Ary.new A hz))
theorem Goes.iaload (S : Sd p l e R s m args below meth c T h n0 cells slots) (B : Base p s m meth c Z y0 bytes0 maxL0 ret0) (A : Ary Z h a .int n f) (q0 : ¬ j < 0) (q1 : j.toNatClampNeg < n) (hd : decode bytes0 pc = .ok (.iaload, 1)) (hv : f j.toNatClampNeg = v) (k : Goes p.tables e below Φ T (mkF m (pc + 1) Ls (v :: rest))) : Goes p.tables e below Φ T (mkF m pc Ls (.int j :: .ref a :: rest)) := by
  obtain ⟨locs, X, eT, N, hn⟩ := S
  obtain ⟨cl, A, r1, r2, r3⟩ := A
  exact Goes.go (X.iaload B.1 (j := j) (v := v) (by rw [eT]; exact A.1) (State.isArrayOf_alike B.2.1.alike A.2.1) A.2.2 (by rw [r1]; exact fun z => z.elim q0 (Nat.not_le.mpr q1)) (by rw [r3 _ q1, hv]) (g := mkF m pc Ls (.int j :: .ref a :: rest)) rfl rfl (B.d hd)) k
theorem Goes.laload (S : Sd p l e R s m args below meth c T h n0 cells slots) (B : Base p s m meth c Z y0 bytes0 maxL0 ret0) (A : Ary Z h a .long n f) (q0 : ¬ j < 0) (q1 : j.toNatClampNeg < n) (hd : decode bytes0 pc = .ok (.laload, 1)) (hv : f j.toNatClampNeg = v) (k : Goes p.tables e below Φ T (mkF m (pc + 1) Ls (v :: rest))) : Goes p.tables e below Φ T (mkF m pc Ls (.int j :: .ref a :: rest)) := by
  obtain ⟨locs, X, eT, N, hn⟩ := S
  obtain ⟨cl, A, r1, r2, r3⟩ := A
  exact Goes.go (X.laload B.1 (j := j) (v := v) (by rw [eT]; exact A.1) (State.isArrayOf_alike B.2.1.alike A.2.1) A.2.2 (by rw [r1]; exact fun z => z.elim q0 (Nat.not_le.mpr q1)) (by rw [r3 _ q1, hv]) (g := mkF m pc Ls (.int j :: .ref a :: rest)) rfl rfl (B.d hd)) k
theorem Goes.baload (S : Sd p l e R s m args below meth c T h n0 cells slots) (B : Base p s m meth c Z y0 bytes0 maxL0 ret0) (A : Ary Z h a .byte n f) (q0 : ¬ j < 0) (q1 : j.toNatClampNeg < n) (hd : decode bytes0 pc = .ok (.baload, 1)) (hv : f j.toNatClampNeg = v) (k : Goes p.tables e below Φ T (mkF m (pc + 1) Ls (v :: rest))) : Goes p.tables e below Φ T (mkF m pc Ls (.int j :: .ref a :: rest)) := by
  obtain ⟨locs, X, eT, N, hn⟩ := S
  obtain ⟨cl, A, r1, r2, r3⟩ := A
  exact Goes.go (X.baloadBytes B.1 (j := j) (v := v) (by rw [eT]; exact A.1) (State.isArrayOf_alike B.2.1.alike A.2.1) A.2.2 (by rw [r1]; exact fun z => z.elim q0 (Nat.not_le.mpr q1)) (by rw [r3 _ q1, hv]) (g := mkF m pc Ls (.int j :: .ref a :: rest)) rfl rfl (B.d hd)) k
theorem Goes.zaload (S : Sd p l e R s m args below meth c T h n0 cells slots) (B : Base p s m meth c Z y0 bytes0 maxL0 ret0) (A : Ary Z h a .boolean n f) (q0 : ¬ j < 0) (q1 : j.toNatClampNeg < n) (hd : decode bytes0 pc = .ok (.baload, 1)) (hv : f j.toNatClampNeg = v) (k : Goes p.tables e below Φ T (mkF m (pc + 1) Ls (v :: rest))) : Goes p.tables e below Φ T (mkF m pc Ls (.int j :: .ref a :: rest)) := by
  obtain ⟨locs, X, eT, N, hn⟩ := S
  obtain ⟨cl, A, r1, r2, r3⟩ := A
  exact Goes.go (X.baloadBooleans B.1 (j := j) (v := v) (by rw [eT]; exact A.1) (State.isArrayOf_alike B.2.1.alike A.2.1) A.2.2 (by rw [r1]; exact fun z => z.elim q0 (Nat.not_le.mpr q1)) (by rw [r3 _ q1, hv]) (g := mkF m pc Ls (.int j :: .ref a :: rest)) rfl rfl (B.d hd)) k
theorem Goes.alen (S : Sd p l e R s m args below meth c T h n0 cells slots) (B : Base p s m meth c Z y0 bytes0 maxL0 ret0) (A : Ary Z h a ty n f) {z : Int32} (hz : n.toInt32 = z) (hd : decode bytes0 pc = .ok (.arraylength, 1)) (k : Goes p.tables e below Φ T (mkF m (pc + 1) Ls (.int z :: rest))) : Goes p.tables e below Φ T (mkF m pc Ls (.ref a :: rest)) := by
  obtain ⟨locs, X, eT, N, hn⟩ := S
  obtain ⟨cl, A, r1, r2, r3⟩ := A
  subst r1 hz
  exact Goes.go (X.arraylength B.1 (by rw [eT]; exact A.1) (State.isArrayOf_alike B.2.1.alike A.2.1) (g := mkF m pc Ls (.ref a :: rest)) rfl rfl (B.d hd)) k
theorem Goes.iastore {x : Int32} (S : Sd p l e R s m args below meth c T h n0 cells slots) (B : Base p s m meth c Z y0 bytes0 maxL0 ret0) (A : Ary Z h a .int n f) (q0 : ¬ j < 0) (q1 : j.toNatClampNeg < n) (ga : n0 ≤ a) (hd : decode bytes0 pc = .ok (.iastore, 1))
    (k : ∀ T' h', Sd p l e R s m args below meth c T' h' n0 cells slots → Wr h h' a j.toNatClampNeg (.int x) → Ary Z h' a .int n (upd f j.toNatClampNeg (.int x)) → Goes p.tables e below Φ T' (mkF m (pc + 1) Ls rest)) : Goes p.tables e below Φ T (mkF m pc Ls (.int x :: .int j :: .ref a :: rest)) := by
  obtain ⟨locs, X, eT, N, hn⟩ := S
  have A' := A
  obtain ⟨cl, A, r1, r2, r3⟩ := A
  obtain ⟨T', h', X', e', W, stp⟩ := RoadKit.stI X B.1 B.2.1 eT A (j := j) (by rw [r1]; exact fun z => z.elim q0 (Nat.not_le.mpr q1)) (g := mkF m pc Ls (.int x :: .int j :: .ref a :: rest)) rfl rfl (B.d hd)
  exact Goes.go stp (k T' h' ⟨_, X', e', Fr.snoc X' N ga, hn⟩ W (A'.set W q1))
theorem Goes.lastore {x : Int64} (S : Sd p l e R s m args below meth c T h n0 cells slots) (B : Base p s m meth c Z y0 bytes0 maxL0 ret0) (A : Ary Z h a .long n f) (q0 : ¬ j < 0) (q1 : j.toNatClampNeg < n) (ga : n0 ≤ a) (hd : decode bytes0 pc = .ok (.lastore, 1))
    (k : ∀ T' h', Sd p l e R s m args below meth c T' h' n0 cells slots → Wr h h' a j.toNatClampNeg (.long x) → Ary Z h' a .long n (upd f j.toNatClampNeg (.long x)) → Goes p.tables e below Φ T' (mkF m (pc + 1) Ls rest)) : Goes p.tables e below Φ T (mkF m pc Ls (.long x :: .int j :: .ref a :: rest)) := by
  obtain ⟨locs, X, eT, N, hn⟩ := S
  have A' := A
  obtain ⟨cl, A, r1, r2, r3⟩ := A
  obtain ⟨T', h', X', e', W, stp⟩ := RoadKit.stJ X B.1 B.2.1 eT A (j := j) (by rw [r1]; exact fun z => z.elim q0 (Nat.not_le.mpr q1)) (g := mkF m pc Ls (.long x :: .int j :: .ref a :: rest)) rfl rfl (B.d hd)
  exact Goes.go stp (k T' h' ⟨_, X', e', Fr.snoc X' N ga, hn⟩ W (A'.set W q1))
theorem Goes.bastore {x : Int32} (S : Sd p l e R s m args below meth c T h n0 cells slots) (B : Base p s m meth c Z y0 bytes0 maxL0 ret0) (A : Ary Z h a .byte n f) (q0 : ¬ j < 0) (q1 : j.toNatClampNeg < n) (ga : n0 ≤ a) (hd : decode bytes0 pc = .ok (.bastore, 1))
    (k : ∀ T' h', Sd p l e R s m args below meth c T' h' n0 cells slots → Wr h h' a j.toNatClampNeg (.int (nar .byte x)) → Ary Z h' a .byte n (upd f j.toNatClampNeg (.int (nar .byte x))) → Goes p.tables e below Φ T' (mkF m (pc + 1) Ls rest)) : Goes p.tables e below Φ T (mkF m pc Ls (.int x :: .int j :: .ref a :: rest)) := by
  obtain ⟨locs, X, eT, N, hn⟩ := S
  have A' := A
  obtain ⟨cl, A, r1, r2, r3⟩ := A
  obtain ⟨T', h', X', e', W, stp⟩ := RoadKit.stB X B.1 B.2.1 eT A (j := j) (by rw [r1]; exact fun z => z.elim q0 (Nat.not_le.mpr q1)) (g := mkF m pc Ls (.int x :: .int j :: .ref a :: rest)) rfl rfl (B.d hd)
  exact Goes.go stp (k T' h' ⟨_, X', e', Fr.snoc X' N ga, hn⟩ W (A'.set W q1))
theorem Goes.zastore {x : Int32} (S : Sd p l e R s m args below meth c T h n0 cells slots) (B : Base p s m meth c Z y0 bytes0 maxL0 ret0) (A : Ary Z h a .boolean n f) (q0 : ¬ j < 0) (q1 : j.toNatClampNeg < n) (ga : n0 ≤ a) (hd : decode bytes0 pc = .ok (.bastore, 1))
    (k : ∀ T' h', Sd p l e R s m args below meth c T' h' n0 cells slots → Wr h h' a j.toNatClampNeg (.int (nar .boolean x)) → Ary Z h' a .boolean n (upd f j.toNatClampNeg (.int (nar .boolean x))) → Goes p.tables e below Φ T' (mkF m (pc + 1) Ls rest)) : Goes p.tables e below Φ T (mkF m pc Ls (.int x :: .int j :: .ref a :: rest)) := by
  obtain ⟨locs, X, eT, N, hn⟩ := S
  have A' := A
  obtain ⟨cl, A, r1, r2, r3⟩ := A
  obtain ⟨T', h', X', e', W, stp⟩ := RoadKit.stZ X B.1 B.2.1 eT A (j := j) (by rw [r1]; exact fun z => z.elim q0 (Nat.not_le.mpr q1)) (g := mkF m pc Ls (.int x :: .int j :: .ref a :: rest)) rfl rfl (B.d hd)
  exact Goes.go stp (k T' h' ⟨_, X', e', Fr.snoc X' N ga, hn⟩ W (A'.set W q1))
end Arrays
end Lay
end Jvm.OwnKit
namespace Jvm.Pilot.@@N@@
open Jvm Jvm.ClassFile Sem Op Lib Jvm.Free Jvm.Stand Jvm.LawKit Jvm.RoadKit Jvm.OwnKit Bundle Jvm.Pilot.@@N@@.Jvm.D
theorem w0 {Z : State} {a0 : Array Value} (hw : ∀ d ∈ tables_1, d.before a0 Z = true) : ((Jvm.Cond.constant "com/example/arbitrary_objects/arbitraryobjects/engine/StandingCanGoDeeperPinLaw" (7 : Nat) (1073741823 : Int32)) : Jvm.Cond).before a0 Z = true := hw _ (List.mem_of_getElem? (i := 0) rfl)
theorem w1 {Z : State} {a0 : Array Value} (hw : ∀ d ∈ tables_1, d.before a0 Z = true) : ((Jvm.Cond.classLink "com/example/arbitrary_objects/arbitraryobjects/engine/StandingCanGoDeeperPinLaw" (8 : Nat) "com/example/arbitrary_objects/arbitraryobjects/engine/Cuts$Standing") : Jvm.Cond).before a0 Z = true := hw _ (List.mem_of_getElem? (i := 1) rfl)
theorem w2 {Z : State} {a0 : Array Value} (hw : ∀ d ∈ tables_1, d.before a0 Z = true) : ((Jvm.Cond.instantiable "com/example/arbitrary_objects/arbitraryobjects/engine/Cuts$Standing" (4 : Nat)) : Jvm.Cond).before a0 Z = true := hw _ (List.mem_of_getElem? (i := 2) rfl)
theorem w3 {Z : State} {a0 : Array Value} (hw : ∀ d ∈ tables_1, d.before a0 Z = true) : ((Jvm.Cond.initialized "com/example/arbitrary_objects/arbitraryobjects/engine/Cuts$Standing") : Jvm.Cond).before a0 Z = true := hw _ (List.mem_of_getElem? (i := 3) rfl)
theorem w4 {Z : State} {a0 : Array Value} (hw : ∀ d ∈ tables_1, d.before a0 Z = true) : ((Jvm.Cond.methodLink "com/example/arbitrary_objects/arbitraryobjects/engine/StandingCanGoDeeperPinLaw" (10 : Nat) ({ cls := "com/example/arbitrary_objects/arbitraryobjects/engine/Cuts$Standing", name := "<init>", desc := "(IIZZ)V" } : Jvm.MethodName)) : Jvm.Cond).before a0 Z = true := hw _ (List.mem_of_getElem? (i := 4) rfl)
theorem w5 {Z : State} {a0 : Array Value} (hw : ∀ d ∈ tables_1, d.before a0 Z = true) : ((Jvm.Cond.instanceMethod ({ cls := "com/example/arbitrary_objects/arbitraryobjects/engine/Cuts$Standing", name := "<init>", desc := "(IIZZ)V" } : Jvm.MethodName)) : Jvm.Cond).before a0 Z = true := hw _ (List.mem_of_getElem? (i := 5) rfl)
theorem w6 {Z : State} {a0 : Array Value} (hw : ∀ d ∈ tables_1, d.before a0 Z = true) : ((Jvm.Cond.code ({ cls := "com/example/arbitrary_objects/arbitraryobjects/engine/Cuts$Standing", name := "<init>", desc := "(IIZZ)V" } : Jvm.MethodName) prog_11_method_1_code (5 : Nat) (Option.none : Option Jvm.ClassFile.FieldType)) : Jvm.Cond).before a0 Z = true := hw _ (List.mem_of_getElem? (i := 6) rfl)
theorem w7 {Z : State} {a0 : Array Value} (hw : ∀ d ∈ tables_1, d.before a0 Z = true) : ((Jvm.Cond.methodLink "com/example/arbitrary_objects/arbitraryobjects/engine/Cuts$Standing" (3 : Nat) ({ cls := "java/lang/Record", name := "<init>", desc := "()V" } : Jvm.MethodName)) : Jvm.Cond).before a0 Z = true := hw _ (List.mem_of_getElem? (i := 7) rfl)
theorem w8 {Z : State} {a0 : Array Value} (hw : ∀ d ∈ tables_1, d.before a0 Z = true) : ((Jvm.Cond.instanceMethod ({ cls := "java/lang/Record", name := "<init>", desc := "()V" } : Jvm.MethodName)) : Jvm.Cond).before a0 Z = true := hw _ (List.mem_of_getElem? (i := 8) rfl)
theorem w10 {Z : State} {a0 : Array Value} (hw : ∀ d ∈ tables_1, d.before a0 Z = true) : ((Jvm.Cond.initialized "java/lang/Record") : Jvm.Cond).before a0 Z = true := hw _ (List.mem_of_getElem? (i := 10) rfl)
theorem w11 {Z : State} {a0 : Array Value} (hw : ∀ d ∈ tables_1, d.before a0 Z = true) : ((Jvm.Cond.code ({ cls := "java/lang/Record", name := "<init>", desc := "()V" } : Jvm.MethodName) jdk_30_method_1_code (1 : Nat) (Option.none : Option Jvm.ClassFile.FieldType)) : Jvm.Cond).before a0 Z = true := hw _ (List.mem_of_getElem? (i := 11) rfl)
theorem w12 {Z : State} {a0 : Array Value} (hw : ∀ d ∈ tables_1, d.before a0 Z = true) : ((Jvm.Cond.methodLink "java/lang/Record" (1 : Nat) ({ cls := "java/lang/Object", name := "<init>", desc := "()V" } : Jvm.MethodName)) : Jvm.Cond).before a0 Z = true := hw _ (List.mem_of_getElem? (i := 12) rfl)
theorem w13 {Z : State} {a0 : Array Value} (hw : ∀ d ∈ tables_1, d.before a0 Z = true) : ((Jvm.Cond.instanceMethod ({ cls := "java/lang/Object", name := "<init>", desc := "()V" } : Jvm.MethodName)) : Jvm.Cond).before a0 Z = true := hw _ (List.mem_of_getElem? (i := 13) rfl)
theorem w14 {Z : State} {a0 : Array Value} (hw : ∀ d ∈ tables_1, d.before a0 Z = true) : ((Jvm.Cond.code ({ cls := "java/lang/Object", name := "<init>", desc := "()V" } : Jvm.MethodName) object_method_1_code (1 : Nat) (Option.none : Option Jvm.ClassFile.FieldType)) : Jvm.Cond).before a0 Z = true := hw _ (List.mem_of_getElem? (i := 14) rfl)
theorem w15 {Z : State} {a0 : Array Value} (hw : ∀ d ∈ tables_1, d.before a0 Z = true) : ((Jvm.Cond.fieldLink "com/example/arbitrary_objects/arbitraryobjects/engine/Cuts$Standing" (9 : Nat) "com/example/arbitrary_objects/arbitraryobjects/engine/Cuts$Standing" "depth" "I") : Jvm.Cond).before a0 Z = true := hw _ (List.mem_of_getElem? (i := 15) rfl)
theorem w16 {Z : State} {a0 : Array Value} (hw : ∀ d ∈ tables_1, d.before a0 Z = true) : ((Jvm.Cond.laysFinal "com/example/arbitrary_objects/arbitraryobjects/engine/Cuts$Standing" "com/example/arbitrary_objects/arbitraryobjects/engine/Cuts$Standing" "depth" "I") : Jvm.Cond).before a0 Z = true := hw _ (List.mem_of_getElem? (i := 16) rfl)
theorem w17 {Z : State} {a0 : Array Value} (hw : ∀ d ∈ tables_1, d.before a0 Z = true) : ((Jvm.Cond.fieldLink "com/example/arbitrary_objects/arbitraryobjects/engine/Cuts$Standing" (15 : Nat) "com/example/arbitrary_objects/arbitraryobjects/engine/Cuts$Standing" "deepestWithParts" "I") : Jvm.Cond).before a0 Z = true := hw _ (List.mem_of_getElem? (i := 17) rfl)
theorem w18 {Z : State} {a0 : Array Value} (hw : ∀ d ∈ tables_1, d.before a0 Z = true) : ((Jvm.Cond.laysFinal "com/example/arbitrary_objects/arbitraryobjects/engine/Cuts$Standing" "com/example/arbitrary_objects/arbitraryobjects/engine/Cuts$Standing" "deepestWithParts" "I") : Jvm.Cond).before a0 Z = true := hw _ (List.mem_of_getElem? (i := 18) rfl)
theorem w19 {Z : State} {a0 : Array Value} (hw : ∀ d ∈ tables_1, d.before a0 Z = true) : ((Jvm.Cond.fieldLink "com/example/arbitrary_objects/arbitraryobjects/engine/Cuts$Standing" (18 : Nat) "com/example/arbitrary_objects/arbitraryobjects/engine/Cuts$Standing" "holdsNoParts" "Z") : Jvm.Cond).before a0 Z = true := hw _ (List.mem_of_getElem? (i := 19) rfl)
theorem w20 {Z : State} {a0 : Array Value} (hw : ∀ d ∈ tables_1, d.before a0 Z = true) : ((Jvm.Cond.laysFinal "com/example/arbitrary_objects/arbitraryobjects/engine/Cuts$Standing" "com/example/arbitrary_objects/arbitraryobjects/engine/Cuts$Standing" "holdsNoParts" "Z") : Jvm.Cond).before a0 Z = true := hw _ (List.mem_of_getElem? (i := 20) rfl)
theorem w21 {Z : State} {a0 : Array Value} (hw : ∀ d ∈ tables_1, d.before a0 Z = true) : ((Jvm.Cond.fieldLink "com/example/arbitrary_objects/arbitraryobjects/engine/Cuts$Standing" (22 : Nat) "com/example/arbitrary_objects/arbitraryobjects/engine/Cuts$Standing" "pastRepetition" "Z") : Jvm.Cond).before a0 Z = true := hw _ (List.mem_of_getElem? (i := 21) rfl)
theorem w22 {Z : State} {a0 : Array Value} (hw : ∀ d ∈ tables_1, d.before a0 Z = true) : ((Jvm.Cond.laysFinal "com/example/arbitrary_objects/arbitraryobjects/engine/Cuts$Standing" "com/example/arbitrary_objects/arbitraryobjects/engine/Cuts$Standing" "pastRepetition" "Z") : Jvm.Cond).before a0 Z = true := hw _ (List.mem_of_getElem? (i := 22) rfl)
theorem w23 {Z : State} {a0 : Array Value} (hw : ∀ d ∈ tables_1, d.before a0 Z = true) : ((Jvm.Cond.constantLong "com/example/arbitrary_objects/arbitraryobjects/engine/StandingCanGoDeeperPinLaw" (13 : Nat) (8 : Int64)) : Jvm.Cond).before a0 Z = true := hw _ (List.mem_of_getElem? (i := 23) rfl)
theorem w24 {Z : State} {a0 : Array Value} (hw : ∀ d ∈ tables_1, d.before a0 Z = true) : ((Jvm.Cond.methodLink "com/example/arbitrary_objects/arbitraryobjects/engine/StandingCanGoDeeperPinLaw" (15 : Nat) ({ cls := "com/example/arbitrary_objects/arbitraryobjects/engine/Cuts$Standing", name := "canGoDeeper", desc := "()Z" } : Jvm.MethodName)) : Jvm.Cond).before a0 Z = true := hw _ (List.mem_of_getElem? (i := 24) rfl)
theorem w25 {Z : State} {a0 : Array Value} (hw : ∀ d ∈ tables_1, d.before a0 Z = true) : ((Jvm.Cond.declares ({ cls := "com/example/arbitrary_objects/arbitraryobjects/engine/Cuts$Standing", name := "canGoDeeper", desc := "()Z" } : Jvm.MethodName)) : Jvm.Cond).before a0 Z = true := hw _ (List.mem_of_getElem? (i := 25) rfl)
theorem w26 {Z : State} {a0 : Array Value} (hw : ∀ d ∈ tables_1, d.before a0 Z = true) : ((Jvm.Cond.instanceMethod ({ cls := "com/example/arbitrary_objects/arbitraryobjects/engine/Cuts$Standing", name := "canGoDeeper", desc := "()Z" } : Jvm.MethodName)) : Jvm.Cond).before a0 Z = true := hw _ (List.mem_of_getElem? (i := 26) rfl)
theorem w27 {Z : State} {a0 : Array Value} (hw : ∀ d ∈ tables_1, d.before a0 Z = true) : ((Jvm.Cond.selects "com/example/arbitrary_objects/arbitraryobjects/engine/Cuts$Standing" ({ cls := "com/example/arbitrary_objects/arbitraryobjects/engine/Cuts$Standing", name := "canGoDeeper", desc := "()Z" } : Jvm.MethodName) ({ cls := "com/example/arbitrary_objects/arbitraryobjects/engine/Cuts$Standing", name := "canGoDeeper", desc := "()Z" } : Jvm.MethodName)) : Jvm.Cond).before a0 Z = true := hw _ (List.mem_of_getElem? (i := 27) rfl)
theorem w28 {Z : State} {a0 : Array Value} (hw : ∀ d ∈ tables_1, d.before a0 Z = true) : ((Jvm.Cond.code ({ cls := "com/example/arbitrary_objects/arbitraryobjects/engine/Cuts$Standing", name := "canGoDeeper", desc := "()Z" } : Jvm.MethodName) prog_11_method_5_code (1 : Nat) (Option.some Jvm.ClassFile.FieldType.boolean)) : Jvm.Cond).before a0 Z = true := hw _ (List.mem_of_getElem? (i := 28) rfl)
theorem w29 {Z : State} {a0 : Array Value} (hw : ∀ d ∈ tables_1, d.before a0 Z = true) : ((Jvm.Cond.methodLink "com/example/arbitrary_objects/arbitraryobjects/engine/StandingCanGoDeeperPinLaw" (19 : Nat) ({ cls := "com/example/arbitrary_objects/arbitraryobjects/engine/Cuts$Standing", name := "deeper", desc := "()Lcom/example/arbitrary_objects/arbitraryobjects/engine/Cuts$Standing;" } : Jvm.MethodName)) : Jvm.Cond).before a0 Z = true := hw _ (List.mem_of_getElem? (i := 29) rfl)
theorem w30 {Z : State} {a0 : Array Value} (hw : ∀ d ∈ tables_1, d.before a0 Z = true) : ((Jvm.Cond.declares ({ cls := "com/example/arbitrary_objects/arbitraryobjects/engine/Cuts$Standing", name := "deeper", desc := "()Lcom/example/arbitrary_objects/arbitraryobjects/engine/Cuts$Standing;" } : Jvm.MethodName)) : Jvm.Cond).before a0 Z = true := hw _ (List.mem_of_getElem? (i := 30) rfl)
theorem w31 {Z : State} {a0 : Array Value} (hw : ∀ d ∈ tables_1, d.before a0 Z = true) : ((Jvm.Cond.instanceMethod ({ cls := "com/example/arbitrary_objects/arbitraryobjects/engine/Cuts$Standing", name := "deeper", desc := "()Lcom/example/arbitrary_objects/arbitraryobjects/engine/Cuts$Standing;" } : Jvm.MethodName)) : Jvm.Cond).before a0 Z = true := hw _ (List.mem_of_getElem? (i := 31) rfl)
theorem w32 {Z : State} {a0 : Array Value} (hw : ∀ d ∈ tables_1, d.before a0 Z = true) : ((Jvm.Cond.selects "com/example/arbitrary_objects/arbitraryobjects/engine/Cuts$Standing" ({ cls := "com/example/arbitrary_objects/arbitraryobjects/engine/Cuts$Standing", name := "deeper", desc := "()Lcom/example/arbitrary_objects/arbitraryobjects/engine/Cuts$Standing;" } : Jvm.MethodName) ({ cls := "com/example/arbitrary_objects/arbitraryobjects/engine/Cuts$Standing", name := "deeper", desc := "()Lcom/example/arbitrary_objects/arbitraryobjects/engine/Cuts$Standing;" } : Jvm.MethodName)) : Jvm.Cond).before a0 Z = true := hw _ (List.mem_of_getElem? (i := 32) rfl)
theorem w33 {Z : State} {a0 : Array Value} (hw : ∀ d ∈ tables_1, d.before a0 Z = true) : ((Jvm.Cond.code ({ cls := "com/example/arbitrary_objects/arbitraryobjects/engine/Cuts$Standing", name := "deeper", desc := "()Lcom/example/arbitrary_objects/arbitraryobjects/engine/Cuts$Standing;" } : Jvm.MethodName) prog_11_method_7_code (1 : Nat) (Option.some (Jvm.ClassFile.FieldType.object "com/example/arbitrary_objects/arbitraryobjects/engine/Cuts$Standing"))) : Jvm.Cond).before a0 Z = true := hw _ (List.mem_of_getElem? (i := 33) rfl)
theorem w34 {Z : State} {a0 : Array Value} (hw : ∀ d ∈ tables_1, d.before a0 Z = true) : ((Jvm.Cond.classLink "com/example/arbitrary_objects/arbitraryobjects/engine/Cuts$Standing" (10 : Nat) "com/example/arbitrary_objects/arbitraryobjects/engine/Cuts$Standing") : Jvm.Cond).before a0 Z = true := hw _ (List.mem_of_getElem? (i := 34) rfl)
theorem w35 {Z : State} {a0 : Array Value} (hw : ∀ d ∈ tables_1, d.before a0 Z = true) : ((Jvm.Cond.methodLink "com/example/arbitrary_objects/arbitraryobjects/engine/Cuts$Standing" (25 : Nat) ({ cls := "com/example/arbitrary_objects/arbitraryobjects/engine/Cuts$Standing", name := "<init>", desc := "(IIZZ)V" } : Jvm.MethodName)) : Jvm.Cond).before a0 Z = true := hw _ (List.mem_of_getElem? (i := 35) rfl)
theorem w36 {Z : State} {a0 : Array Value} (hw : ∀ d ∈ tables_1, d.before a0 Z = true) : ((Jvm.Cond.methodLink "com/example/arbitrary_objects/arbitraryobjects/engine/StandingCanGoDeeperPinLaw" (23 : Nat) ({ cls := "com/example/arbitrary_objects/arbitraryobjects/engine/Cuts$Standing", name := "ofPart", desc := "()Lcom/example/arbitrary_objects/arbitraryobjects/engine/Cuts$Standing;" } : Jvm.MethodName)) : Jvm.Cond).before a0 Z = true := hw _ (List.mem_of_getElem? (i := 36) rfl)
theorem w37 {Z : State} {a0 : Array Value} (hw : ∀ d ∈ tables_1, d.before a0 Z = true) : ((Jvm.Cond.declares ({ cls := "com/example/arbitrary_objects/arbitraryobjects/engine/Cuts$Standing", name := "ofPart", desc := "()Lcom/example/arbitrary_objects/arbitraryobjects/engine/Cuts$Standing;" } : Jvm.MethodName)) : Jvm.Cond).before a0 Z = true := hw _ (List.mem_of_getElem? (i := 37) rfl)
theorem w38 {Z : State} {a0 : Array Value} (hw : ∀ d ∈ tables_1, d.before a0 Z = true) : ((Jvm.Cond.instanceMethod ({ cls := "com/example/arbitrary_objects/arbitraryobjects/engine/Cuts$Standing", name := "ofPart", desc := "()Lcom/example/arbitrary_objects/arbitraryobjects/engine/Cuts$Standing;" } : Jvm.MethodName)) : Jvm.Cond).before a0 Z = true := hw _ (List.mem_of_getElem? (i := 38) rfl)
theorem w39 {Z : State} {a0 : Array Value} (hw : ∀ d ∈ tables_1, d.before a0 Z = true) : ((Jvm.Cond.selects "com/example/arbitrary_objects/arbitraryobjects/engine/Cuts$Standing" ({ cls := "com/example/arbitrary_objects/arbitraryobjects/engine/Cuts$Standing", name := "ofPart", desc := "()Lcom/example/arbitrary_objects/arbitraryobjects/engine/Cuts$Standing;" } : Jvm.MethodName) ({ cls := "com/example/arbitrary_objects/arbitraryobjects/engine/Cuts$Standing", name := "ofPart", desc := "()Lcom/example/arbitrary_objects/arbitraryobjects/engine/Cuts$Standing;" } : Jvm.MethodName)) : Jvm.Cond).before a0 Z = true := hw _ (List.mem_of_getElem? (i := 39) rfl)
theorem w40 {Z : State} {a0 : Array Value} (hw : ∀ d ∈ tables_1, d.before a0 Z = true) : ((Jvm.Cond.code ({ cls := "com/example/arbitrary_objects/arbitraryobjects/engine/Cuts$Standing", name := "ofPart", desc := "()Lcom/example/arbitrary_objects/arbitraryobjects/engine/Cuts$Standing;" } : Jvm.MethodName) prog_11_method_2_code (1 : Nat) (Option.some (Jvm.ClassFile.FieldType.object "com/example/arbitrary_objects/arbitraryobjects/engine/Cuts$Standing"))) : Jvm.Cond).before a0 Z = true := hw _ (List.mem_of_getElem? (i := 40) rfl)
theorem d_jdk_30_method_1_0 : decode jdk_30_method_1_code 0 = .ok (.aload_n 0, 1) := by decide +kernel
theorem d_jdk_30_method_1_1 : decode jdk_30_method_1_code 1 = .ok (.invokespecial 1, 3) := by decide +kernel
theorem d_jdk_30_method_1_4 : decode jdk_30_method_1_code 4 = .ok (.return_, 1) := by decide +kernel
theorem d_prog_11_method_1_0 : decode prog_11_method_1_code 0 = .ok (.aload_n 0, 1) := by decide +kernel
theorem d_prog_11_method_1_1 : decode prog_11_method_1_code 1 = .ok (.invokespecial 3, 3) := by decide +kernel
theorem d_prog_11_method_1_4 : decode prog_11_method_1_code 4 = .ok (.aload_n 0, 1) := by decide +kernel
theorem d_prog_11_method_1_5 : decode prog_11_method_1_code 5 = .ok (.iload_n 1, 1) := by decide +kernel
theorem d_prog_11_method_1_6 : decode prog_11_method_1_code 6 = .ok (.putfield 9, 3) := by decide +kernel
theorem d_prog_11_method_1_9 : decode prog_11_method_1_code 9 = .ok (.aload_n 0, 1) := by decide +kernel
theorem d_prog_11_method_1_10 : decode prog_11_method_1_code 10 = .ok (.iload_n 2, 1) := by decide +kernel
theorem d_prog_11_method_1_11 : decode prog_11_method_1_code 11 = .ok (.putfield 15, 3) := by decide +kernel
theorem d_prog_11_method_1_14 : decode prog_11_method_1_code 14 = .ok (.aload_n 0, 1) := by decide +kernel
theorem d_prog_11_method_1_15 : decode prog_11_method_1_code 15 = .ok (.iload_n 3, 1) := by decide +kernel
theorem d_prog_11_method_1_16 : decode prog_11_method_1_code 16 = .ok (.putfield 18, 3) := by decide +kernel
theorem d_prog_11_method_1_19 : decode prog_11_method_1_code 19 = .ok (.aload_n 0, 1) := by decide +kernel
theorem d_prog_11_method_1_20 : decode prog_11_method_1_code 20 = .ok (.iload 4, 2) := by decide +kernel
theorem d_prog_11_method_1_22 : decode prog_11_method_1_code 22 = .ok (.putfield 22, 3) := by decide +kernel
theorem d_prog_11_method_1_25 : decode prog_11_method_1_code 25 = .ok (.return_, 1) := by decide +kernel
theorem d_prog_11_method_7_0 : decode prog_11_method_7_code 0 = .ok (.new 10, 3) := by decide +kernel
theorem d_prog_11_method_7_3 : decode prog_11_method_7_code 3 = .ok (.dup, 1) := by decide +kernel
theorem d_prog_11_method_7_4 : decode prog_11_method_7_code 4 = .ok (.aload_n 0, 1) := by decide +kernel
theorem d_prog_11_method_7_5 : decode prog_11_method_7_code 5 = .ok (.getfield 9, 3) := by decide +kernel
theorem d_prog_11_method_7_8 : decode prog_11_method_7_code 8 = .ok (.aload_n 0, 1) := by decide +kernel
theorem d_prog_11_method_7_9 : decode prog_11_method_7_code 9 = .ok (.getfield 9, 3) := by decide +kernel
theorem d_prog_11_method_7_12 : decode prog_11_method_7_code 12 = .ok (.bipush 8, 2) := by decide +kernel
theorem d_prog_11_method_7_14 : decode prog_11_method_7_code 14 = .ok (.iadd, 1) := by decide +kernel
theorem d_prog_11_method_7_15 : decode prog_11_method_7_code 15 = .ok (.aload_n 0, 1) := by decide +kernel
theorem d_prog_11_method_7_16 : decode prog_11_method_7_code 16 = .ok (.getfield 18, 3) := by decide +kernel
theorem d_prog_11_method_7_19 : decode prog_11_method_7_code 19 = .ok (.aload_n 0, 1) := by decide +kernel
theorem d_prog_11_method_7_20 : decode prog_11_method_7_code 20 = .ok (.getfield 22, 3) := by decide +kernel
theorem d_prog_11_method_7_23 : decode prog_11_method_7_code 23 = .ok (.invokespecial 25, 3) := by decide +kernel
theorem d_prog_11_method_7_26 : decode prog_11_method_7_code 26 = .ok (.areturn, 1) := by decide +kernel
theorem d_prog_11_method_2_0 : decode prog_11_method_2_code 0 = .ok (.new 10, 3) := by decide +kernel
theorem d_prog_11_method_2_3 : decode prog_11_method_2_code 3 = .ok (.dup, 1) := by decide +kernel
theorem d_prog_11_method_2_4 : decode prog_11_method_2_code 4 = .ok (.aload_n 0, 1) := by decide +kernel
theorem d_prog_11_method_2_5 : decode prog_11_method_2_code 5 = .ok (.getfield 9, 3) := by decide +kernel
theorem d_prog_11_method_2_8 : decode prog_11_method_2_code 8 = .ok (.iconst 1, 1) := by decide +kernel
theorem d_prog_11_method_2_9 : decode prog_11_method_2_code 9 = .ok (.iadd, 1) := by decide +kernel
theorem d_prog_11_method_2_10 : decode prog_11_method_2_code 10 = .ok (.aload_n 0, 1) := by decide +kernel
theorem d_prog_11_method_2_11 : decode prog_11_method_2_code 11 = .ok (.getfield 15, 3) := by decide +kernel
theorem d_prog_11_method_2_14 : decode prog_11_method_2_code 14 = .ok (.iconst 0, 1) := by decide +kernel
theorem d_prog_11_method_2_15 : decode prog_11_method_2_code 15 = .ok (.iconst 0, 1) := by decide +kernel
theorem d_prog_11_method_2_16 : decode prog_11_method_2_code 16 = .ok (.invokespecial 25, 3) := by decide +kernel
theorem d_prog_11_method_2_19 : decode prog_11_method_2_code 19 = .ok (.areturn, 1) := by decide +kernel
theorem d_prog_11_method_5_0 : decode prog_11_method_5_code 0 = .ok (.aload_n 0, 1) := by decide +kernel
theorem d_prog_11_method_5_1 : decode prog_11_method_5_code 1 = .ok (.getfield 18, 3) := by decide +kernel
theorem d_prog_11_method_5_4 : decode prog_11_method_5_code 4 = .ok (.ifCond .ne 21, 3) := by decide +kernel
theorem d_prog_11_method_5_7 : decode prog_11_method_5_code 7 = .ok (.aload_n 0, 1) := by decide +kernel
theorem d_prog_11_method_5_8 : decode prog_11_method_5_code 8 = .ok (.getfield 9, 3) := by decide +kernel
theorem d_prog_11_method_5_11 : decode prog_11_method_5_code 11 = .ok (.bipush 8, 2) := by decide +kernel
theorem d_prog_11_method_5_13 : decode prog_11_method_5_code 13 = .ok (.iadd, 1) := by decide +kernel
theorem d_prog_11_method_5_14 : decode prog_11_method_5_code 14 = .ok (.aload_n 0, 1) := by decide +kernel
theorem d_prog_11_method_5_15 : decode prog_11_method_5_code 15 = .ok (.getfield 15, 3) := by decide +kernel
theorem d_prog_11_method_5_18 : decode prog_11_method_5_code 18 = .ok (.if_icmp .le 7, 3) := by decide +kernel
theorem d_prog_11_method_5_21 : decode prog_11_method_5_code 21 = .ok (.iconst 1, 1) := by decide +kernel
theorem d_prog_11_method_5_22 : decode prog_11_method_5_code 22 = .ok (.goto 4, 3) := by decide +kernel
theorem d_prog_11_method_5_25 : decode prog_11_method_5_code 25 = .ok (.iconst 0, 1) := by decide +kernel
theorem d_prog_11_method_5_26 : decode prog_11_method_5_code 26 = .ok (.ireturn, 1) := by decide +kernel
theorem pd_0 : parseMethodDescriptor "()V" = some ⟨[], none⟩ := by decide +kernel
theorem pd_1 : parseMethodDescriptor "(IIZZ)V" = some ⟨[.int, .int, .boolean, .boolean], none⟩ := by decide +kernel
theorem pd_2 : parseMethodDescriptor "()Z" = some ⟨[], some .boolean⟩ := by decide +kernel
theorem pd_3 : parseMethodDescriptor "()Lcom/example/arbitrary_objects/arbitraryobjects/engine/Cuts$Standing;" = some ⟨[], some (.object "com/example/arbitrary_objects/arbitraryobjects/engine/Cuts$Standing")⟩ := by decide +kernel
theorem pn_0 : plainName "java/lang/Record" = true := by first | (simp [plainName, overriddenIn]; done) | decide +kernel
theorem pn_1 : plainName "com/example/arbitrary_objects/arbitraryobjects/engine/Cuts$Standing" = true := by first | (simp [plainName, overriddenIn]; done) | decide +kernel
theorem pn_2 : plainName "com/example/arbitrary_objects/arbitraryobjects/engine/StandingCanGoDeeperPinLaw" = true := by first | (simp [plainName, overriddenIn]; done) | decide +kernel

theorem own_irr (x : Int32) : ¬ x < x := by rw [Int32.lt_iff_toInt_lt]; omega
theorem own_mask (x : Int32) : 0 ≤ (x &&& (1073741823 : Int32)).toInt ∧ (x &&& (1073741823 : Int32)).toInt ≤ 1073741823 := by
  have := c_and x 1073741823 (by decide)
  have e : (1073741823 : Int32).toInt = 1073741823 := by decide
  omega
theorem own_up (x : Int32) (h : 0 ≤ x.toInt ∧ x.toInt ≤ 1073741823) : (x + (8 : Int32)) < ((x + (1 : Int32)) + (8 : Int32)) := by
  have h1 := c_iadd x 8
  have h2 := c_iadd x 1
  have h3 := c_iadd (x + 1) 8
  have h4 := rng32 (x + 8)
  have h5 := rng32 (x + 1)
  have h6 := rng32 (x + 1 + 8)
  have e1 : (8 : Int32).toInt = 8 := by decide
  have e2 : (1 : Int32).toInt = 1 := by decide
  rw [Int32.lt_iff_toInt_lt]
  omega
theorem own_lt (x y : Int32) (h : 0 ≤ x.toInt ∧ x.toInt ≤ 1073741823) : y < (x + (8 : Int32)) ↔ (y.toInt64 - x.toInt64) < (8 : Int64) := by
  have h1 := c_iadd x 8
  have h2 := c_i2l x
  have h3 := c_i2l y
  have h4 := c_lsub y.toInt64 x.toInt64
  have h5 := rng32 (x + 8)
  have h6 := rng32 y
  have h7 := rng64 (y.toInt64 - x.toInt64)
  have e1 : (8 : Int32).toInt = 8 := by decide
  have e2 : (8 : Int64).toInt = 8 := by decide
  rw [Int32.lt_iff_toInt_lt, Int64.lt_iff_toInt_lt, e2]
  omega

theorem ef_rmR (m : MethodId) (a0 : Addr) : entryFrame m #[(.ref a0)] 1 = mkF m 0 #[.val (.ref a0)] [] := by first | (simp [entryFrame, mkF, argsToLocals, Value.category]; done) | rfl
def Q_rmR (Z : State) (a0 : Addr) (h0 : Heap) (n0 : Nat) (v : Option Value) (h : Heap) : Prop := v = none ∧ h = h0
set_option maxRecDepth 65536 in
set_option maxHeartbeats 40000000 in
theorem rmR (l : Launch) (Z : State) (aw : Array Value) (hw : ∀ d ∈ tables_1, d.before aw Z = true) (a0 : Addr) (h0 : Heap) (n0 : Nat) :
    Con l Z (⟨"java/lang/Record", "<init>", "()V"⟩ : MethodName) jdk_30_method_1_code 1 none ({ frames := 1, cells := 0, slots := 0, locals := 12 } : Room) #[(.ref a0)] h0 n0 (Q_rmR Z a0 h0 n0) := by
  refine Con.body (plainFor_of_name pn_0) ?_
  intro p e s m below meth c T B S
  refine Goes.cast (ef_rmR m a0) ?_
  refine Goes.go (fun _ => XS.aloadN S.here B.x rfl (B.d d_jdk_30_method_1_0) rfl rfl) ?_
  show Goes _ _ _ _ T (mkF m 1 #[.val (.ref a0)] [(.ref a0)])
  refine Goes.initO (W := 0) S B (w12 hw) (w13 hw) (w14 hw) d_jdk_30_method_1_1 rfl (by decide) (Nat.le_of_eq rfl) (by decide) ?_
  intro T S
  show Goes _ _ _ _ T (mkF m 4 #[.val (.ref a0)] [])
  refine Goes.retV S B d_jdk_30_method_1_4 (by decide) (by decide) ?_
  exact ⟨(by first | rfl | (rw [bi_pos (by assumption)]; rfl) | (rw [bi_neg (by assumption)]; rfl) | (rw [nar_bi]; exact congrArg (fun z => some (Value.int z)) (bi_congr (by simp_all))) | (simp_all [bi, nar]; done)), rfl⟩
theorem ef_rmI (m : MethodId) (a0 : Addr) (p1 : Int32) (p2 : Int32) (p3 : Int32) (p4 : Int32) : entryFrame m #[(.ref a0), (.int p1), (.int p2), (.int p3), (.int p4)] 5 = mkF m 0 #[.val (.ref a0), .val (.int p1), .val (.int p2), .val (.int p3), .val (.int p4)] [] := by first | (simp [entryFrame, mkF, argsToLocals, Value.category]; done) | rfl
def Q_rmI (Z : State) (a0 : Addr) (p1 : Int32) (p2 : Int32) (p3 : Int32) (p4 : Int32) (h0 : Heap) (n0 : Nat) (v : Option Value) (h : Heap) : Prop := v = none ∧ Keep h0 h [a0] ∧ Exa Z h a0 "com/example/arbitrary_objects/arbitraryobjects/engine/Cuts$Standing" ∧ Fld Z h a0 "com/example/arbitrary_objects/arbitraryobjects/engine/Cuts$Standing" "depth" "I" (.int p1) ∧ Fld Z h a0 "com/example/arbitrary_objects/arbitraryobjects/engine/Cuts$Standing" "deepestWithParts" "I" (.int p2) ∧ Fld Z h a0 "com/example/arbitrary_objects/arbitraryobjects/engine/Cuts$Standing" "holdsNoParts" "Z" (.int p3) ∧ Fld Z h a0 "com/example/arbitrary_objects/arbitraryobjects/engine/Cuts$Standing" "pastRepetition" "Z" (.int p4)
set_option maxRecDepth 65536 in
set_option maxHeartbeats 40000000 in
theorem rmI (l : Launch) (Z : State) (aw : Array Value) (hw : ∀ d ∈ tables_1, d.before aw Z = true) (a0 : Addr) (p1 : Int32) (p2 : Int32) (p3 : Int32) (p4 : Int32) (h0 : Heap) (n0 : Nat) (E_a0 : Exa Z h0 a0 "com/example/arbitrary_objects/arbitraryobjects/engine/Cuts$Standing") (F_a0_depth : Fld Z h0 a0 "com/example/arbitrary_objects/arbitraryobjects/engine/Cuts$Standing" "depth" "I" (.int (0 : Int32))) (F_a0_deepestWithParts : Fld Z h0 a0 "com/example/arbitrary_objects/arbitraryobjects/engine/Cuts$Standing" "deepestWithParts" "I" (.int (0 : Int32))) (F_a0_holdsNoParts : Fld Z h0 a0 "com/example/arbitrary_objects/arbitraryobjects/engine/Cuts$Standing" "holdsNoParts" "Z" (.int (0 : Int32))) (F_a0_pastRepetition : Fld Z h0 a0 "com/example/arbitrary_objects/arbitraryobjects/engine/Cuts$Standing" "pastRepetition" "Z" (.int (0 : Int32))) (g_a0 : n0 ≤ a0) (hb_p3 : p3 = 0 ∨ p3 = 1) (hb_p4 : p4 = 0 ∨ p4 = 1) :
    Con l Z (⟨"com/example/arbitrary_objects/arbitraryobjects/engine/Cuts$Standing", "<init>", "(IIZZ)V"⟩ : MethodName) prog_11_method_1_code 5 none ({ frames := 2, cells := 0, slots := 0, locals := 24 } : Room) #[(.ref a0), (.int p1), (.int p2), (.int p3), (.int p4)] h0 n0 (Q_rmI Z a0 p1 p2 p3 p4 h0 n0) := by
  refine Con.body (plainFor_of_name pn_1) ?_
  intro p e s m below meth c T B S
  refine Goes.cast (ef_rmI m a0 p1 p2 p3 p4) ?_
  have K : Keep h0 h0 [a0] := Keep.refl _ _
  refine Goes.go (fun _ => XS.aloadN S.here B.x rfl (B.d d_prog_11_method_1_0) rfl rfl) ?_
  show Goes _ _ _ _ T (mkF m 1 #[.val (.ref a0), .val (.int p1), .val (.int p2), .val (.int p3), .val (.int p4)] [(.ref a0)])
  refine Goes.callI (argsL := []) (rest := []) (W := 0) S B (rmR l Z aw hw a0 _ n0) (w7 hw) (w8 hw) (w10 hw) (w11 hw) (by decide) rfl (by decide) (by decide) (by decide) (by decide) rfl (lenOf pd_0 rfl) rfl (Nat.le_of_eq rfl) d_prog_11_method_1_1 ?_
  intro v T h S hQ
  obtain ⟨rfl, hh⟩ := hQ
  replace hh := hh.symm
  subst hh
  show Goes _ _ _ _ T (mkF m 4 #[.val (.ref a0), .val (.int p1), .val (.int p2), .val (.int p3), .val (.int p4)] [])
  refine Goes.go (fun _ => XS.aloadN S.here B.x rfl (B.d d_prog_11_method_1_4) rfl rfl) ?_
  show Goes _ _ _ _ T (mkF m 5 #[.val (.ref a0), .val (.int p1), .val (.int p2), .val (.int p3), .val (.int p4)] [(.ref a0)])
  refine Goes.go (fun _ => XS.iloadN S.here B.x rfl (B.d d_prog_11_method_1_5) rfl) ?_
  show Goes _ _ _ _ T (mkF m 6 #[.val (.ref a0), .val (.int p1), .val (.int p2), .val (.int p3), .val (.int p4)] [(.int p1), (.ref a0)])
  refine Goes.putF (v' := (.int p1)) S B (w15 hw) F_a0_depth E_a0 (Or.inr ⟨(w16 hw), rfl, rfl⟩) (w2 hw) (ty := .int) (by decide) rfl rfl g_a0 d_prog_11_method_1_6 ?_
  intro T h S W
  replace K := K.wr W (Or.inl (by simp))
  replace E_a0 := E_a0.wr W
  replace F_a0_depth := F_a0_depth.same W
  replace F_a0_deepestWithParts := F_a0_deepestWithParts.other W (Or.inr (slot_ne (Or.inr (w18 hw)) (Or.inr (w16 hw)) (by decide) (t := .int) (t' := .int) (by decide) (by decide)))
  replace F_a0_holdsNoParts := F_a0_holdsNoParts.other W (Or.inr (slot_ne (Or.inr (w20 hw)) (Or.inr (w16 hw)) (by decide) (t := .boolean) (t' := .int) (by decide) (by decide)))
  replace F_a0_pastRepetition := F_a0_pastRepetition.other W (Or.inr (slot_ne (Or.inr (w22 hw)) (Or.inr (w16 hw)) (by decide) (t := .boolean) (t' := .int) (by decide) (by decide)))
  show Goes _ _ _ _ T (mkF m 9 #[.val (.ref a0), .val (.int p1), .val (.int p2), .val (.int p3), .val (.int p4)] [])
  refine Goes.go (fun _ => XS.aloadN S.here B.x rfl (B.d d_prog_11_method_1_9) rfl rfl) ?_
  show Goes _ _ _ _ T (mkF m 10 #[.val (.ref a0), .val (.int p1), .val (.int p2), .val (.int p3), .val (.int p4)] [(.ref a0)])
  refine Goes.go (fun _ => XS.iloadN S.here B.x rfl (B.d d_prog_11_method_1_10) rfl) ?_
  show Goes _ _ _ _ T (mkF m 11 #[.val (.ref a0), .val (.int p1), .val (.int p2), .val (.int p3), .val (.int p4)] [(.int p2), (.ref a0)])
  refine Goes.putF (v' := (.int p2)) S B (w17 hw) F_a0_deepestWithParts E_a0 (Or.inr ⟨(w18 hw), rfl, rfl⟩) (w2 hw) (ty := .int) (by decide) rfl rfl g_a0 d_prog_11_method_1_11 ?_
  intro T h S W
  replace K := K.wr W (Or.inl (by simp))
  replace E_a0 := E_a0.wr W
  replace F_a0_depth := F_a0_depth.other W (Or.inr (slot_ne (Or.inr (w16 hw)) (Or.inr (w18 hw)) (by decide) (t := .int) (t' := .int) (by decide) (by decide)))
  replace F_a0_deepestWithParts := F_a0_deepestWithParts.same W
  replace F_a0_holdsNoParts := F_a0_holdsNoParts.other W (Or.inr (slot_ne (Or.inr (w20 hw)) (Or.inr (w18 hw)) (by decide) (t := .boolean) (t' := .int) (by decide) (by decide)))
  replace F_a0_pastRepetition := F_a0_pastRepetition.other W (Or.inr (slot_ne (Or.inr (w22 hw)) (Or.inr (w18 hw)) (by decide) (t := .boolean) (t' := .int) (by decide) (by decide)))
  show Goes _ _ _ _ T (mkF m 14 #[.val (.ref a0), .val (.int p1), .val (.int p2), .val (.int p3), .val (.int p4)] [])
  refine Goes.go (fun _ => XS.aloadN S.here B.x rfl (B.d d_prog_11_method_1_14) rfl rfl) ?_
  show Goes _ _ _ _ T (mkF m 15 #[.val (.ref a0), .val (.int p1), .val (.int p2), .val (.int p3), .val (.int p4)] [(.ref a0)])
  refine Goes.go (fun _ => XS.iloadN S.here B.x rfl (B.d d_prog_11_method_1_15) rfl) ?_
  show Goes _ _ _ _ T (mkF m 16 #[.val (.ref a0), .val (.int p1), .val (.int p2), .val (.int p3), .val (.int p4)] [(.int p3), (.ref a0)])
  refine Goes.putF (v' := (.int p3)) S B (w19 hw) F_a0_holdsNoParts E_a0 (Or.inr ⟨(w20 hw), rfl, rfl⟩) (w2 hw) (ty := .boolean) (by decide) (by rcases hb_p3 with rfl | rfl <;> rfl) (by rcases hb_p3 with rfl | rfl <;> rfl) g_a0 d_prog_11_method_1_16 ?_
  intro T h S W
  replace K := K.wr W (Or.inl (by simp))
  replace E_a0 := E_a0.wr W
  replace F_a0_depth := F_a0_depth.other W (Or.inr (slot_ne (Or.inr (w16 hw)) (Or.inr (w20 hw)) (by decide) (t := .int) (t' := .boolean) (by decide) (by decide)))
  replace F_a0_deepestWithParts := F_a0_deepestWithParts.other W (Or.inr (slot_ne (Or.inr (w18 hw)) (Or.inr (w20 hw)) (by decide) (t := .int) (t' := .boolean) (by decide) (by decide)))
  replace F_a0_holdsNoParts := F_a0_holdsNoParts.same W
  replace F_a0_pastRepetition := F_a0_pastRepetition.other W (Or.inr (slot_ne (Or.inr (w22 hw)) (Or.inr (w20 hw)) (by decide) (t := .boolean) (t' := .boolean) (by decide) (by decide)))
  show Goes _ _ _ _ T (mkF m 19 #[.val (.ref a0), .val (.int p1), .val (.int p2), .val (.int p3), .val (.int p4)] [])
  refine Goes.go (fun _ => XS.aloadN S.here B.x rfl (B.d d_prog_11_method_1_19) rfl rfl) ?_
  show Goes _ _ _ _ T (mkF m 20 #[.val (.ref a0), .val (.int p1), .val (.int p2), .val (.int p3), .val (.int p4)] [(.ref a0)])
  refine Goes.go (fun _ => XS.iload S.here B.x rfl (B.d d_prog_11_method_1_20) rfl) ?_
  show Goes _ _ _ _ T (mkF m 22 #[.val (.ref a0), .val (.int p1), .val (.int p2), .val (.int p3), .val (.int p4)] [(.int p4), (.ref a0)])
  refine Goes.putF (v' := (.int p4)) S B (w21 hw) F_a0_pastRepetition E_a0 (Or.inr ⟨(w22 hw), rfl, rfl⟩) (w2 hw) (ty := .boolean) (by decide) (by rcases hb_p4 with rfl | rfl <;> rfl) (by rcases hb_p4 with rfl | rfl <;> rfl) g_a0 d_prog_11_method_1_22 ?_
  intro T h S W
  replace K := K.wr W (Or.inl (by simp))
  replace E_a0 := E_a0.wr W
  replace F_a0_depth := F_a0_depth.other W (Or.inr (slot_ne (Or.inr (w16 hw)) (Or.inr (w22 hw)) (by decide) (t := .int) (t' := .boolean) (by decide) (by decide)))
  replace F_a0_deepestWithParts := F_a0_deepestWithParts.other W (Or.inr (slot_ne (Or.inr (w18 hw)) (Or.inr (w22 hw)) (by decide) (t := .int) (t' := .boolean) (by decide) (by decide)))
  replace F_a0_holdsNoParts := F_a0_holdsNoParts.other W (Or.inr (slot_ne (Or.inr (w20 hw)) (Or.inr (w22 hw)) (by decide) (t := .boolean) (t' := .boolean) (by decide) (by decide)))
  replace F_a0_pastRepetition := F_a0_pastRepetition.same W
  show Goes _ _ _ _ T (mkF m 25 #[.val (.ref a0), .val (.int p1), .val (.int p2), .val (.int p3), .val (.int p4)] [])
  refine Goes.retV S B d_prog_11_method_1_25 (by decide) (by decide) ?_
  exact ⟨(by first | rfl | (rw [bi_pos (by assumption)]; rfl) | (rw [bi_neg (by assumption)]; rfl) | (rw [nar_bi]; exact congrArg (fun z => some (Value.int z)) (bi_congr (by simp_all))) | (simp_all [bi, nar]; done)), K, (by first | exact E_a0 | (simpa using E_a0)), (by first | exact F_a0_depth | (simpa using F_a0_depth)), (by first | exact F_a0_deepestWithParts | (simpa using F_a0_deepestWithParts)), (by first | exact F_a0_holdsNoParts | (simpa using F_a0_holdsNoParts)), (by first | exact F_a0_pastRepetition | (simpa using F_a0_pastRepetition))⟩
theorem ef_rm_deeper (m : MethodId) (a0 : Addr) : entryFrame m #[(.ref a0)] 1 = mkF m 0 #[.val (.ref a0)] [] := by first | (simp [entryFrame, mkF, argsToLocals, Value.category]; done) | rfl
def Q_rm_deeper (Z : State) (a0 : Addr) (g1 : Int32) (g2 : Int32) (g3 : Int32) (g4 : Int32) (h0 : Heap) (n0 : Nat) (v : Option Value) (h : Heap) : Prop := ∃ (r : Addr), v = some (.ref r) ∧ h0.size ≤ r ∧ Keep h0 h [] ∧ Exa Z h r "com/example/arbitrary_objects/arbitraryobjects/engine/Cuts$Standing" ∧ Fld Z h r "com/example/arbitrary_objects/arbitraryobjects/engine/Cuts$Standing" "depth" "I" (.int g1) ∧ Fld Z h r "com/example/arbitrary_objects/arbitraryobjects/engine/Cuts$Standing" "deepestWithParts" "I" (.int (g1 + (8 : Int32))) ∧ Fld Z h r "com/example/arbitrary_objects/arbitraryobjects/engine/Cuts$Standing" "holdsNoParts" "Z" (.int g3) ∧ Fld Z h r "com/example/arbitrary_objects/arbitraryobjects/engine/Cuts$Standing" "pastRepetition" "Z" (.int g4)
set_option maxRecDepth 65536 in
set_option maxHeartbeats 40000000 in
theorem rm_deeper (l : Launch) (Z : State) (aw : Array Value) (hw : ∀ d ∈ tables_1, d.before aw Z = true) (a0 : Addr) (g1 : Int32) (g2 : Int32) (g3 : Int32) (g4 : Int32) (h0 : Heap) (n0 : Nat) (E_a0 : Exa Z h0 a0 "com/example/arbitrary_objects/arbitraryobjects/engine/Cuts$Standing") (F_a0_depth : Fld Z h0 a0 "com/example/arbitrary_objects/arbitraryobjects/engine/Cuts$Standing" "depth" "I" (.int g1)) (F_a0_deepestWithParts : Fld Z h0 a0 "com/example/arbitrary_objects/arbitraryobjects/engine/Cuts$Standing" "deepestWithParts" "I" (.int g2)) (F_a0_holdsNoParts : Fld Z h0 a0 "com/example/arbitrary_objects/arbitraryobjects/engine/Cuts$Standing" "holdsNoParts" "Z" (.int g3)) (F_a0_pastRepetition : Fld Z h0 a0 "com/example/arbitrary_objects/arbitraryobjects/engine/Cuts$Standing" "pastRepetition" "Z" (.int g4)) (hb_g3 : g3 = 0 ∨ g3 = 1) (hb_g4 : g4 = 0 ∨ g4 = 1) :
    Con l Z (⟨"com/example/arbitrary_objects/arbitraryobjects/engine/Cuts$Standing", "deeper", "()Lcom/example/arbitrary_objects/arbitraryobjects/engine/Cuts$Standing;"⟩ : MethodName) prog_11_method_7_code 1 (some (.object "com/example/arbitrary_objects/arbitraryobjects/engine/Cuts$Standing")) ({ frames := 3, cells := 1, slots := 4, locals := 41 } : Room) #[(.ref a0)] h0 n0 (Q_rm_deeper Z a0 g1 g2 g3 g4 h0 n0) := by
  refine Con.body (plainFor_of_name pn_1) ?_
  intro p e s m below meth c T B S
  refine Goes.cast (ef_rm_deeper m a0) ?_
  have K : Keep h0 h0 [] := Keep.refl _ _
  refine Goes.newO S B (w34 hw) (w2 hw) (w3 hw) d_prog_11_method_7_0 (by decide) (by decide) ?_
  intro T h b1 S X zb g_b1 E_b1 D
  have ne_a0__b1 : a0 ≠ b1 := Nat.ne_of_lt (Nat.lt_of_lt_of_le E_a0.lt (Nat.le_of_eq zb.symm))
  have z_b1 : h0.size ≤ b1 := Nat.le_trans K.1 (Nat.le_of_eq zb.symm)
  replace K := K.ext X
  replace E_a0 := E_a0.ext X
  replace F_a0_depth := F_a0_depth.ext X
  replace F_a0_deepestWithParts := F_a0_deepestWithParts.ext X
  replace F_a0_holdsNoParts := F_a0_holdsNoParts.ext X
  replace F_a0_pastRepetition := F_a0_pastRepetition.ext X
  have F_b1_depth : Fld Z h b1 "com/example/arbitrary_objects/arbitraryobjects/engine/Cuts$Standing" "depth" "I" (.int (0 : Int32)) := D (Or.inr (w16 hw)) (ty := .int) (by decide)
  have F_b1_deepestWithParts : Fld Z h b1 "com/example/arbitrary_objects/arbitraryobjects/engine/Cuts$Standing" "deepestWithParts" "I" (.int (0 : Int32)) := D (Or.inr (w18 hw)) (ty := .int) (by decide)
  have F_b1_holdsNoParts : Fld Z h b1 "com/example/arbitrary_objects/arbitraryobjects/engine/Cuts$Standing" "holdsNoParts" "Z" (.int (0 : Int32)) := D (Or.inr (w20 hw)) (ty := .boolean) (by decide)
  have F_b1_pastRepetition : Fld Z h b1 "com/example/arbitrary_objects/arbitraryobjects/engine/Cuts$Standing" "pastRepetition" "Z" (.int (0 : Int32)) := D (Or.inr (w22 hw)) (ty := .boolean) (by decide)
  show Goes _ _ _ _ T (mkF m 3 #[.val (.ref a0)] [(.ref b1)])
  refine Goes.go (fun _ => XS.dup S.here B.x rfl (B.d d_prog_11_method_7_3) rfl rfl) ?_
  show Goes _ _ _ _ T (mkF m 4 #[.val (.ref a0)] [(.ref b1), (.ref b1)])
  refine Goes.go (fun _ => XS.aloadN S.here B.x rfl (B.d d_prog_11_method_7_4) rfl rfl) ?_
  show Goes _ _ _ _ T (mkF m 5 #[.val (.ref a0)] [(.ref a0), (.ref b1), (.ref b1)])
  refine Goes.getF S B (w15 hw) F_a0_depth d_prog_11_method_7_5 ?_
  intro T S
  show Goes _ _ _ _ T (mkF m 8 #[.val (.ref a0)] [(.int g1), (.ref b1), (.ref b1)])
  refine Goes.go (fun _ => XS.aloadN S.here B.x rfl (B.d d_prog_11_method_7_8) rfl rfl) ?_
  show Goes _ _ _ _ T (mkF m 9 #[.val (.ref a0)] [(.ref a0), (.int g1), (.ref b1), (.ref b1)])
  refine Goes.getF S B (w15 hw) F_a0_depth d_prog_11_method_7_9 ?_
  intro T S
  show Goes _ _ _ _ T (mkF m 12 #[.val (.ref a0)] [(.int g1), (.int g1), (.ref b1), (.ref b1)])
  refine Goes.go (fun _ => XS.bipush S.here B.x rfl (B.d d_prog_11_method_7_12)) ?_
  show Goes _ _ _ _ T (mkF m 14 #[.val (.ref a0)] [(.int (8 : Int32)), (.int g1), (.int g1), (.ref b1), (.ref b1)])
  refine Goes.go (fun _ => XS.iadd S.here B.x rfl (B.d d_prog_11_method_7_14) rfl) ?_
  show Goes _ _ _ _ T (mkF m 15 #[.val (.ref a0)] [(.int (g1 + (8 : Int32))), (.int g1), (.ref b1), (.ref b1)])
  refine Goes.go (fun _ => XS.aloadN S.here B.x rfl (B.d d_prog_11_method_7_15) rfl rfl) ?_
  show Goes _ _ _ _ T (mkF m 16 #[.val (.ref a0)] [(.ref a0), (.int (g1 + (8 : Int32))), (.int g1), (.ref b1), (.ref b1)])
  refine Goes.getF S B (w19 hw) F_a0_holdsNoParts d_prog_11_method_7_16 ?_
  intro T S
  show Goes _ _ _ _ T (mkF m 19 #[.val (.ref a0)] [(.int g3), (.int (g1 + (8 : Int32))), (.int g1), (.ref b1), (.ref b1)])
  refine Goes.go (fun _ => XS.aloadN S.here B.x rfl (B.d d_prog_11_method_7_19) rfl rfl) ?_
  show Goes _ _ _ _ T (mkF m 20 #[.val (.ref a0)] [(.ref a0), (.int g3), (.int (g1 + (8 : Int32))), (.int g1), (.ref b1), (.ref b1)])
  refine Goes.getF S B (w21 hw) F_a0_pastRepetition d_prog_11_method_7_20 ?_
  intro T S
  show Goes _ _ _ _ T (mkF m 23 #[.val (.ref a0)] [(.int g4), (.int g3), (.int (g1 + (8 : Int32))), (.int g1), (.ref b1), (.ref b1)])
  refine Goes.callI (argsL := [(.int g1), (.int (g1 + (8 : Int32))), (.int g3), (.int g4)]) (rest := [(.ref b1)]) (W := 1) S B (rmI l Z aw hw b1 g1 (g1 + (8 : Int32)) g3 g4 _ n0 E_b1 F_b1_depth F_b1_deepestWithParts F_b1_holdsNoParts F_b1_pastRepetition g_b1 hb_g3 hb_g4) (w35 hw) (w5 hw) (w3 hw) (w6 hw) (by decide) rfl (by decide) (by decide) (by decide) (by decide) rfl (lenOf pd_1 rfl) rfl (Nat.le_of_eq rfl) d_prog_11_method_7_23 ?_
  intro v T h S hQ
  obtain ⟨rfl, Kc, E_b1', F_b1_depth', F_b1_deepestWithParts', F_b1_holdsNoParts', F_b1_pastRepetition'⟩ := hQ
  replace K := K.trans Kc (allS (Or.inr z_b1) all0)
  replace E_a0 := E_a0.keep Kc
  replace F_a0_depth := F_a0_depth.keep Kc (ninS ne_a0__b1 nin0)
  replace F_a0_deepestWithParts := F_a0_deepestWithParts.keep Kc (ninS ne_a0__b1 nin0)
  replace F_a0_holdsNoParts := F_a0_holdsNoParts.keep Kc (ninS ne_a0__b1 nin0)
  replace F_a0_pastRepetition := F_a0_pastRepetition.keep Kc (ninS ne_a0__b1 nin0)
  replace E_b1 := E_b1'
  replace F_b1_depth := F_b1_depth'
  replace F_b1_deepestWithParts := F_b1_deepestWithParts'
  replace F_b1_holdsNoParts := F_b1_holdsNoParts'
  replace F_b1_pastRepetition := F_b1_pastRepetition'
  show Goes _ _ _ _ T (mkF m 26 #[.val (.ref a0)] [(.ref b1)])
  refine Goes.retA S B rfl d_prog_11_method_7_26 (by decide) (by decide) ?_
  exact ⟨b1, rfl, z_b1, K, (by first | exact E_b1 | (simpa using E_b1)), (by first | exact F_b1_depth | (simpa using F_b1_depth)), (by first | exact F_b1_deepestWithParts | (simpa using F_b1_deepestWithParts)), (by first | exact F_b1_holdsNoParts | (simpa using F_b1_holdsNoParts)), (by first | exact F_b1_pastRepetition | (simpa using F_b1_pastRepetition))⟩
theorem ef_rm_ofpart (m : MethodId) (a0 : Addr) : entryFrame m #[(.ref a0)] 1 = mkF m 0 #[.val (.ref a0)] [] := by first | (simp [entryFrame, mkF, argsToLocals, Value.category]; done) | rfl
def Q_rm_ofpart (Z : State) (a0 : Addr) (g1 : Int32) (g2 : Int32) (g3 : Int32) (g4 : Int32) (h0 : Heap) (n0 : Nat) (v : Option Value) (h : Heap) : Prop := ∃ (r : Addr), v = some (.ref r) ∧ h0.size ≤ r ∧ Keep h0 h [] ∧ Exa Z h r "com/example/arbitrary_objects/arbitraryobjects/engine/Cuts$Standing" ∧ Fld Z h r "com/example/arbitrary_objects/arbitraryobjects/engine/Cuts$Standing" "depth" "I" (.int (g1 + (1 : Int32))) ∧ Fld Z h r "com/example/arbitrary_objects/arbitraryobjects/engine/Cuts$Standing" "deepestWithParts" "I" (.int g2) ∧ Fld Z h r "com/example/arbitrary_objects/arbitraryobjects/engine/Cuts$Standing" "holdsNoParts" "Z" (.int (0 : Int32)) ∧ Fld Z h r "com/example/arbitrary_objects/arbitraryobjects/engine/Cuts$Standing" "pastRepetition" "Z" (.int (0 : Int32))
set_option maxRecDepth 65536 in
set_option maxHeartbeats 40000000 in
theorem rm_ofpart (l : Launch) (Z : State) (aw : Array Value) (hw : ∀ d ∈ tables_1, d.before aw Z = true) (a0 : Addr) (g1 : Int32) (g2 : Int32) (g3 : Int32) (g4 : Int32) (h0 : Heap) (n0 : Nat) (E_a0 : Exa Z h0 a0 "com/example/arbitrary_objects/arbitraryobjects/engine/Cuts$Standing") (F_a0_depth : Fld Z h0 a0 "com/example/arbitrary_objects/arbitraryobjects/engine/Cuts$Standing" "depth" "I" (.int g1)) (F_a0_deepestWithParts : Fld Z h0 a0 "com/example/arbitrary_objects/arbitraryobjects/engine/Cuts$Standing" "deepestWithParts" "I" (.int g2)) (F_a0_holdsNoParts : Fld Z h0 a0 "com/example/arbitrary_objects/arbitraryobjects/engine/Cuts$Standing" "holdsNoParts" "Z" (.int g3)) (F_a0_pastRepetition : Fld Z h0 a0 "com/example/arbitrary_objects/arbitraryobjects/engine/Cuts$Standing" "pastRepetition" "Z" (.int g4)) :
    Con l Z (⟨"com/example/arbitrary_objects/arbitraryobjects/engine/Cuts$Standing", "ofPart", "()Lcom/example/arbitrary_objects/arbitraryobjects/engine/Cuts$Standing;"⟩ : MethodName) prog_11_method_2_code 1 (some (.object "com/example/arbitrary_objects/arbitraryobjects/engine/Cuts$Standing")) ({ frames := 3, cells := 1, slots := 4, locals := 41 } : Room) #[(.ref a0)] h0 n0 (Q_rm_ofpart Z a0 g1 g2 g3 g4 h0 n0) := by
  refine Con.body (plainFor_of_name pn_1) ?_
  intro p e s m below meth c T B S
  refine Goes.cast (ef_rm_ofpart m a0) ?_
  have K : Keep h0 h0 [] := Keep.refl _ _
  refine Goes.newO S B (w34 hw) (w2 hw) (w3 hw) d_prog_11_method_2_0 (by decide) (by decide) ?_
  intro T h b1 S X zb g_b1 E_b1 D
  have ne_a0__b1 : a0 ≠ b1 := Nat.ne_of_lt (Nat.lt_of_lt_of_le E_a0.lt (Nat.le_of_eq zb.symm))
  have z_b1 : h0.size ≤ b1 := Nat.le_trans K.1 (Nat.le_of_eq zb.symm)
  replace K := K.ext X
  replace E_a0 := E_a0.ext X
  replace F_a0_depth := F_a0_depth.ext X
  replace F_a0_deepestWithParts := F_a0_deepestWithParts.ext X
  replace F_a0_holdsNoParts := F_a0_holdsNoParts.ext X
  replace F_a0_pastRepetition := F_a0_pastRepetition.ext X
  have F_b1_depth : Fld Z h b1 "com/example/arbitrary_objects/arbitraryobjects/engine/Cuts$Standing" "depth" "I" (.int (0 : Int32)) := D (Or.inr (w16 hw)) (ty := .int) (by decide)
  have F_b1_deepestWithParts : Fld Z h b1 "com/example/arbitrary_objects/arbitraryobjects/engine/Cuts$Standing" "deepestWithParts" "I" (.int (0 : Int32)) := D (Or.inr (w18 hw)) (ty := .int) (by decide)
  have F_b1_holdsNoParts : Fld Z h b1 "com/example/arbitrary_objects/arbitraryobjects/engine/Cuts$Standing" "holdsNoParts" "Z" (.int (0 : Int32)) := D (Or.inr (w20 hw)) (ty := .boolean) (by decide)
  have F_b1_pastRepetition : Fld Z h b1 "com/example/arbitrary_objects/arbitraryobjects/engine/Cuts$Standing" "pastRepetition" "Z" (.int (0 : Int32)) := D (Or.inr (w22 hw)) (ty := .boolean) (by decide)
  show Goes _ _ _ _ T (mkF m 3 #[.val (.ref a0)] [(.ref b1)])
  refine Goes.go (fun _ => XS.dup S.here B.x rfl (B.d d_prog_11_method_2_3) rfl rfl) ?_
  show Goes _ _ _ _ T (mkF m 4 #[.val (.ref a0)] [(.ref b1), (.ref b1)])
  refine Goes.go (fun _ => XS.aloadN S.here B.x rfl (B.d d_prog_11_method_2_4) rfl rfl) ?_
  show Goes _ _ _ _ T (mkF m 5 #[.val (.ref a0)] [(.ref a0), (.ref b1), (.ref b1)])
  refine Goes.getF S B (w15 hw) F_a0_depth d_prog_11_method_2_5 ?_
  intro T S
  show Goes _ _ _ _ T (mkF m 8 #[.val (.ref a0)] [(.int g1), (.ref b1), (.ref b1)])
  refine Goes.go (fun _ => XS.iconst S.here B.x rfl (B.d d_prog_11_method_2_8)) ?_
  show Goes _ _ _ _ T (mkF m 9 #[.val (.ref a0)] [(.int (1 : Int32)), (.int g1), (.ref b1), (.ref b1)])
  refine Goes.go (fun _ => XS.iadd S.here B.x rfl (B.d d_prog_11_method_2_9) rfl) ?_
  show Goes _ _ _ _ T (mkF m 10 #[.val (.ref a0)] [(.int (g1 + (1 : Int32))), (.ref b1), (.ref b1)])
  refine Goes.go (fun _ => XS.aloadN S.here B.x rfl (B.d d_prog_11_method_2_10) rfl rfl) ?_
  show Goes _ _ _ _ T (mkF m 11 #[.val (.ref a0)] [(.ref a0), (.int (g1 + (1 : Int32))), (.ref b1), (.ref b1)])
  refine Goes.getF S B (w17 hw) F_a0_deepestWithParts d_prog_11_method_2_11 ?_
  intro T S
  show Goes _ _ _ _ T (mkF m 14 #[.val (.ref a0)] [(.int g2), (.int (g1 + (1 : Int32))), (.ref b1), (.ref b1)])
  refine Goes.go (fun _ => XS.iconst S.here B.x rfl (B.d d_prog_11_method_2_14)) ?_
  show Goes _ _ _ _ T (mkF m 15 #[.val (.ref a0)] [(.int (0 : Int32)), (.int g2), (.int (g1 + (1 : Int32))), (.ref b1), (.ref b1)])
  refine Goes.go (fun _ => XS.iconst S.here B.x rfl (B.d d_prog_11_method_2_15)) ?_
  show Goes _ _ _ _ T (mkF m 16 #[.val (.ref a0)] [(.int (0 : Int32)), (.int (0 : Int32)), (.int g2), (.int (g1 + (1 : Int32))), (.ref b1), (.ref b1)])
  refine Goes.callI (argsL := [(.int (g1 + (1 : Int32))), (.int g2), (.int (0 : Int32)), (.int (0 : Int32))]) (rest := [(.ref b1)]) (W := 1) S B (rmI l Z aw hw b1 (g1 + (1 : Int32)) g2 (0 : Int32) (0 : Int32) _ n0 E_b1 F_b1_depth F_b1_deepestWithParts F_b1_holdsNoParts F_b1_pastRepetition g_b1 (Or.inl rfl) (Or.inl rfl)) (w35 hw) (w5 hw) (w3 hw) (w6 hw) (by decide) rfl (by decide) (by decide) (by decide) (by decide) rfl (lenOf pd_1 rfl) rfl (Nat.le_of_eq rfl) d_prog_11_method_2_16 ?_
  intro v T h S hQ
  obtain ⟨rfl, Kc, E_b1', F_b1_depth', F_b1_deepestWithParts', F_b1_holdsNoParts', F_b1_pastRepetition'⟩ := hQ
  replace K := K.trans Kc (allS (Or.inr z_b1) all0)
  replace E_a0 := E_a0.keep Kc
  replace F_a0_depth := F_a0_depth.keep Kc (ninS ne_a0__b1 nin0)
  replace F_a0_deepestWithParts := F_a0_deepestWithParts.keep Kc (ninS ne_a0__b1 nin0)
  replace F_a0_holdsNoParts := F_a0_holdsNoParts.keep Kc (ninS ne_a0__b1 nin0)
  replace F_a0_pastRepetition := F_a0_pastRepetition.keep Kc (ninS ne_a0__b1 nin0)
  replace E_b1 := E_b1'
  replace F_b1_depth := F_b1_depth'
  replace F_b1_deepestWithParts := F_b1_deepestWithParts'
  replace F_b1_holdsNoParts := F_b1_holdsNoParts'
  replace F_b1_pastRepetition := F_b1_pastRepetition'
  show Goes _ _ _ _ T (mkF m 19 #[.val (.ref a0)] [(.ref b1)])
  refine Goes.retA S B rfl d_prog_11_method_2_19 (by decide) (by decide) ?_
  exact ⟨b1, rfl, z_b1, K, (by first | exact E_b1 | (simpa using E_b1)), (by first | exact F_b1_depth | (simpa using F_b1_depth)), (by first | exact F_b1_deepestWithParts | (simpa using F_b1_deepestWithParts)), (by first | exact F_b1_holdsNoParts | (simpa using F_b1_holdsNoParts)), (by first | exact F_b1_pastRepetition | (simpa using F_b1_pastRepetition))⟩
theorem ef_rm_cango (m : MethodId) (a0 : Addr) : entryFrame m #[(.ref a0)] 1 = mkF m 0 #[.val (.ref a0)] [] := by first | (simp [entryFrame, mkF, argsToLocals, Value.category]; done) | rfl
def Q_rm_cango (Z : State) (a0 : Addr) (g1 : Int32) (g2 : Int32) (g3 : Int32) (h0 : Heap) (n0 : Nat) (v : Option Value) (h : Heap) : Prop := v = some (.int (bi (g3 = (0 : Int32) ∧ g2 < (g1 + (8 : Int32))))) ∧ h = h0
set_option maxRecDepth 65536 in
set_option maxHeartbeats 40000000 in
theorem rm_cango (l : Launch) (Z : State) (aw : Array Value) (hw : ∀ d ∈ tables_1, d.before aw Z = true) (a0 : Addr) (g1 : Int32) (g2 : Int32) (g3 : Int32) (h0 : Heap) (n0 : Nat) (F_a0_depth : Fld Z h0 a0 "com/example/arbitrary_objects/arbitraryobjects/engine/Cuts$Standing" "depth" "I" (.int g1)) (F_a0_deepestWithParts : Fld Z h0 a0 "com/example/arbitrary_objects/arbitraryobjects/engine/Cuts$Standing" "deepestWithParts" "I" (.int g2)) (F_a0_holdsNoParts : Fld Z h0 a0 "com/example/arbitrary_objects/arbitraryobjects/engine/Cuts$Standing" "holdsNoParts" "Z" (.int g3)) :
    Con l Z (⟨"com/example/arbitrary_objects/arbitraryobjects/engine/Cuts$Standing", "canGoDeeper", "()Z"⟩ : MethodName) prog_11_method_5_code 1 (some .boolean) ({ frames := 0, cells := 0, slots := 0, locals := 0 } : Room) #[(.ref a0)] h0 n0 (Q_rm_cango Z a0 g1 g2 g3 h0 n0) := by
  refine Con.body (plainFor_of_name pn_1) ?_
  intro p e s m below meth c T B S
  refine Goes.cast (ef_rm_cango m a0) ?_
  refine Goes.go (fun _ => XS.aloadN S.here B.x rfl (B.d d_prog_11_method_5_0) rfl rfl) ?_
  show Goes _ _ _ _ T (mkF m 1 #[.val (.ref a0)] [(.ref a0)])
  refine Goes.getF S B (w19 hw) F_a0_holdsNoParts d_prog_11_method_5_1 ?_
  intro T S
  show Goes _ _ _ _ T (mkF m 4 #[.val (.ref a0)] [(.int g3)])
  by_cases hc4 : g3 = (0 : Int32)
  · skip
    refine Goes.go (fun _ => XS.ifNo S.here B.x rfl (B.d d_prog_11_method_5_4) rfl ((if0 _ _).trans (teq hc4).2)) ?_
    show Goes _ _ _ _ T (mkF m 7 #[.val (.ref a0)] [])
    refine Goes.go (fun _ => XS.aloadN S.here B.x rfl (B.d d_prog_11_method_5_7) rfl rfl) ?_
    show Goes _ _ _ _ T (mkF m 8 #[.val (.ref a0)] [(.ref a0)])
    refine Goes.getF S B (w15 hw) F_a0_depth d_prog_11_method_5_8 ?_
    intro T S
    show Goes _ _ _ _ T (mkF m 11 #[.val (.ref a0)] [(.int g1)])
    refine Goes.go (fun _ => XS.bipush S.here B.x rfl (B.d d_prog_11_method_5_11)) ?_
    show Goes _ _ _ _ T (mkF m 13 #[.val (.ref a0)] [(.int (8 : Int32)), (.int g1)])
    refine Goes.go (fun _ => XS.iadd S.here B.x rfl (B.d d_prog_11_method_5_13) rfl) ?_
    show Goes _ _ _ _ T (mkF m 14 #[.val (.ref a0)] [(.int (g1 + (8 : Int32)))])
    refine Goes.go (fun _ => XS.aloadN S.here B.x rfl (B.d d_prog_11_method_5_14) rfl rfl) ?_
    show Goes _ _ _ _ T (mkF m 15 #[.val (.ref a0)] [(.ref a0), (.int (g1 + (8 : Int32)))])
    refine Goes.getF S B (w17 hw) F_a0_deepestWithParts d_prog_11_method_5_15 ?_
    intro T S
    show Goes _ _ _ _ T (mkF m 18 #[.val (.ref a0)] [(.int g2), (.int (g1 + (8 : Int32)))])
    refine Goes.dia (P := g2 < (g1 + (8 : Int32))) (mk := fun z => (mkF m 26 #[.val (.ref a0)] [(.int z)])) (fun hc18 kk => ?_) (fun hc18 kk => ?_) ?_
    · skip
      refine Goes.go (fun _ => XS.icmpNo S.here B.x rfl (B.d d_prog_11_method_5_18) rfl (tlt hc18).2.2.2) ?_
      show Goes _ _ _ _ T (mkF m 21 #[.val (.ref a0)] [])
      refine Goes.go (fun _ => XS.iconst S.here B.x rfl (B.d d_prog_11_method_5_21)) ?_
      show Goes _ _ _ _ T (mkF m 22 #[.val (.ref a0)] [(.int (1 : Int32))])
      refine Goes.go (fun _ => XS.goto S.here B.x rfl (pc0 := 22) (pc' := 26) rfl (B.d d_prog_11_method_5_22) (by decide) (by decide)) ?_
      show Goes _ _ _ _ T (mkF m 26 #[.val (.ref a0)] [(.int (1 : Int32))])
      exact kk
    · skip
      refine Goes.go (fun _ => XS.icmpYes S.here B.x rfl (pc0 := 18) (pc' := 25) rfl (B.d d_prog_11_method_5_18) rfl (flt hc18).2.2.2 (by decide) (by decide)) ?_
      show Goes _ _ _ _ T (mkF m 25 #[.val (.ref a0)] [])
      refine Goes.go (fun _ => XS.iconst S.here B.x rfl (B.d d_prog_11_method_5_25)) ?_
      show Goes _ _ _ _ T (mkF m 26 #[.val (.ref a0)] [(.int (0 : Int32))])
      exact kk
    show Goes _ _ _ _ T (mkF m 26 #[.val (.ref a0)] [(.int (bi (g2 < (g1 + (8 : Int32)))))])
    refine Goes.retN S B (by simp) d_prog_11_method_5_26 (by decide) (by decide) ?_
    exact ⟨(by first | (simp_all [bi, nar]; done) | (rw [nar_bi]; exact congrArg (fun z => some (Value.int z)) (bi_congr (by simp_all)))), rfl⟩
  · skip
    refine Goes.go (fun _ => XS.ifYes S.here B.x rfl (pc0 := 4) (pc' := 25) rfl (B.d d_prog_11_method_5_4) rfl ((if0 _ _).trans (feq hc4).2) (by decide) (by decide)) ?_
    show Goes _ _ _ _ T (mkF m 25 #[.val (.ref a0)] [])
    refine Goes.go (fun _ => XS.iconst S.here B.x rfl (B.d d_prog_11_method_5_25)) ?_
    show Goes _ _ _ _ T (mkF m 26 #[.val (.ref a0)] [(.int (0 : Int32))])
    refine Goes.retN S B (by simp) d_prog_11_method_5_26 (by decide) (by decide) ?_
    exact ⟨(by first | (simp_all [bi, nar]; done) | (rw [nar_bi]; exact congrArg (fun z => some (Value.int z)) (bi_congr (by simp_all)))), rfl⟩
theorem ef_rm0 (m : MethodId) (p0 : Int32) (p1 : Int32) (p2 : Int32) : entryFrame m #[(.int p0), (.int p1), (.int p2)] maxLocals = mkF m 0 #[.val (.int p0), .val (.int p1), .val (.int p2), .unset, .unset, .unset, .unset, .unset, .unset, .unset] [] := by first | (simp [entryFrame, mkF, argsToLocals, Value.category, maxLocals]; done) | rfl
def Q_rm0 (Z : State) (p0 : Int32) (p1 : Int32) (p2 : Int32) (h0 : Heap) (n0 : Nat) (v : Option Value) (h : Heap) : Prop := v = some (.int 1)
set_option maxRecDepth 65536 in
set_option maxHeartbeats 40000000 in
theorem rm0 (l : Launch) (Z : State) (aw : Array Value) (hw : ∀ d ∈ tables_1, d.before aw Z = true) (p0 : Int32) (p1 : Int32) (p2 : Int32) (h0 : Heap) (n0 : Nat) :
    Con l Z x code maxLocals ret room_1 #[(.int p0), (.int p1), (.int p2)] h0 n0 (Q_rm0 Z p0 p1 p2 h0 n0) := by
  refine Con.body (plainFor_of_name pn_2) ?_
  intro p e s m below meth c T B S
  refine Goes.cast (ef_rm0 m p0 p1 p2) ?_
  refine Goes.go (fun _ => XS.iloadN S.here B.x rfl (B.d at_0) rfl) ?_
  show Goes _ _ _ _ T (mkF m 1 #[.val (.int p0), .val (.int p1), .val (.int p2), .unset, .unset, .unset, .unset, .unset, .unset, .unset] [(.int p0)])
  refine Goes.ldcI S B (w0 hw) at_1 ?_
  show Goes _ _ _ _ T (mkF m 3 #[.val (.int p0), .val (.int p1), .val (.int p2), .unset, .unset, .unset, .unset, .unset, .unset, .unset] [(.int (1073741823 : Int32)), (.int p0)])
  refine Goes.go (fun _ => XS.iand S.here B.x rfl (B.d at_3) rfl) ?_
  show Goes _ _ _ _ T (mkF m 4 #[.val (.int p0), .val (.int p1), .val (.int p2), .unset, .unset, .unset, .unset, .unset, .unset, .unset] [(.int (p0 &&& (1073741823 : Int32)))])
  refine Goes.go (fun _ => XS.istoreN S.here B.x rfl (B.d at_4) rfl (l' := #[.val (.int p0), .val (.int p1), .val (.int p2), .val (.int (p0 &&& (1073741823 : Int32))), .unset, .unset, .unset, .unset, .unset, .unset]) rfl) ?_
  show Goes _ _ _ _ T (mkF m 5 #[.val (.int p0), .val (.int p1), .val (.int p2), .val (.int (p0 &&& (1073741823 : Int32))), .unset, .unset, .unset, .unset, .unset, .unset] [])
  refine Goes.go (fun _ => XS.iloadN S.here B.x rfl (B.d at_5) rfl) ?_
  show Goes _ _ _ _ T (mkF m 6 #[.val (.int p0), .val (.int p1), .val (.int p2), .val (.int (p0 &&& (1073741823 : Int32))), .unset, .unset, .unset, .unset, .unset, .unset] [(.int p2)])
  refine Goes.go (fun _ => XS.iconst S.here B.x rfl (B.d at_6)) ?_
  show Goes _ _ _ _ T (mkF m 7 #[.val (.int p0), .val (.int p1), .val (.int p2), .val (.int (p0 &&& (1073741823 : Int32))), .unset, .unset, .unset, .unset, .unset, .unset] [(.int (4 : Int32)), (.int p2)])
  refine Goes.go (fun _ => XS.iand S.here B.x rfl (B.d at_7) rfl) ?_
  show Goes _ _ _ _ T (mkF m 8 #[.val (.int p0), .val (.int p1), .val (.int p2), .val (.int (p0 &&& (1073741823 : Int32))), .unset, .unset, .unset, .unset, .unset, .unset] [(.int (p2 &&& (4 : Int32)))])
  by_cases hc8 : (p2 &&& (4 : Int32)) = (0 : Int32)
  · skip
    refine Goes.go (fun _ => XS.ifYes S.here B.x rfl (pc0 := 8) (pc' := 20) rfl (B.d at_8) rfl ((if0 _ _).trans (teq hc8).1) (by decide) (by decide)) ?_
    show Goes _ _ _ _ T (mkF m 20 #[.val (.int p0), .val (.int p1), .val (.int p2), .val (.int (p0 &&& (1073741823 : Int32))), .unset, .unset, .unset, .unset, .unset, .unset] [])
    refine Goes.go (fun _ => XS.iloadN S.here B.x rfl (B.d at_20) rfl) ?_
    show Goes _ _ _ _ T (mkF m 21 #[.val (.int p0), .val (.int p1), .val (.int p2), .val (.int (p0 &&& (1073741823 : Int32))), .unset, .unset, .unset, .unset, .unset, .unset] [(.int p1)])
    refine Goes.go (fun _ => XS.istore S.here B.x rfl (B.d at_21) rfl (l' := #[.val (.int p0), .val (.int p1), .val (.int p2), .val (.int (p0 &&& (1073741823 : Int32))), .val (.int p1), .unset, .unset, .unset, .unset, .unset]) rfl) ?_
    show Goes _ _ _ _ T (mkF m 23 #[.val (.int p0), .val (.int p1), .val (.int p2), .val (.int (p0 &&& (1073741823 : Int32))), .val (.int p1), .unset, .unset, .unset, .unset, .unset] [])
    refine Goes.go (fun _ => XS.iloadN S.here B.x rfl (B.d at_23) rfl) ?_
    show Goes _ _ _ _ T (mkF m 24 #[.val (.int p0), .val (.int p1), .val (.int p2), .val (.int (p0 &&& (1073741823 : Int32))), .val (.int p1), .unset, .unset, .unset, .unset, .unset] [(.int p2)])
    refine Goes.go (fun _ => XS.iconst S.here B.x rfl (B.d at_24)) ?_
    show Goes _ _ _ _ T (mkF m 25 #[.val (.int p0), .val (.int p1), .val (.int p2), .val (.int (p0 &&& (1073741823 : Int32))), .val (.int p1), .unset, .unset, .unset, .unset, .unset] [(.int (1 : Int32)), (.int p2)])
    refine Goes.go (fun _ => XS.iand S.here B.x rfl (B.d at_25) rfl) ?_
    show Goes _ _ _ _ T (mkF m 26 #[.val (.int p0), .val (.int p1), .val (.int p2), .val (.int (p0 &&& (1073741823 : Int32))), .val (.int p1), .unset, .unset, .unset, .unset, .unset] [(.int (p2 &&& (1 : Int32)))])
    refine Goes.dia (P := ¬ ((p2 &&& (1 : Int32)) = (0 : Int32))) (mk := fun z => (mkF m 34 #[.val (.int p0), .val (.int p1), .val (.int p2), .val (.int (p0 &&& (1073741823 : Int32))), .val (.int p1), .unset, .unset, .unset, .unset, .unset] [(.int z)])) (fun hc26 kk => ?_) (fun hc26 kk => ?_) ?_
    · skip
      refine Goes.go (fun _ => XS.ifNo S.here B.x rfl (B.d at_26) rfl ((if0 _ _).trans (feq hc26).1)) ?_
      show Goes _ _ _ _ T (mkF m 29 #[.val (.int p0), .val (.int p1), .val (.int p2), .val (.int (p0 &&& (1073741823 : Int32))), .val (.int p1), .unset, .unset, .unset, .unset, .unset] [])
      refine Goes.go (fun _ => XS.iconst S.here B.x rfl (B.d at_29)) ?_
      show Goes _ _ _ _ T (mkF m 30 #[.val (.int p0), .val (.int p1), .val (.int p2), .val (.int (p0 &&& (1073741823 : Int32))), .val (.int p1), .unset, .unset, .unset, .unset, .unset] [(.int (1 : Int32))])
      refine Goes.go (fun _ => XS.goto S.here B.x rfl (pc0 := 30) (pc' := 34) rfl (B.d at_30) (by decide) (by decide)) ?_
      show Goes _ _ _ _ T (mkF m 34 #[.val (.int p0), .val (.int p1), .val (.int p2), .val (.int (p0 &&& (1073741823 : Int32))), .val (.int p1), .unset, .unset, .unset, .unset, .unset] [(.int (1 : Int32))])
      exact kk
    · skip
      refine Goes.go (fun _ => XS.ifYes S.here B.x rfl (pc0 := 26) (pc' := 33) rfl (B.d at_26) rfl ((if0 _ _).trans (teq (Classical.not_not.mp hc26)).1) (by decide) (by decide)) ?_
      show Goes _ _ _ _ T (mkF m 33 #[.val (.int p0), .val (.int p1), .val (.int p2), .val (.int (p0 &&& (1073741823 : Int32))), .val (.int p1), .unset, .unset, .unset, .unset, .unset] [])
      refine Goes.go (fun _ => XS.iconst S.here B.x rfl (B.d at_33)) ?_
      show Goes _ _ _ _ T (mkF m 34 #[.val (.int p0), .val (.int p1), .val (.int p2), .val (.int (p0 &&& (1073741823 : Int32))), .val (.int p1), .unset, .unset, .unset, .unset, .unset] [(.int (0 : Int32))])
      exact kk
    show Goes _ _ _ _ T (mkF m 34 #[.val (.int p0), .val (.int p1), .val (.int p2), .val (.int (p0 &&& (1073741823 : Int32))), .val (.int p1), .unset, .unset, .unset, .unset, .unset] [(.int (bi (¬ ((p2 &&& (1 : Int32)) = (0 : Int32)))))])
    refine Goes.go (fun _ => XS.istore S.here B.x rfl (B.d at_34) rfl (l' := #[.val (.int p0), .val (.int p1), .val (.int p2), .val (.int (p0 &&& (1073741823 : Int32))), .val (.int p1), .val (.int (bi (¬ ((p2 &&& (1 : Int32)) = (0 : Int32))))), .unset, .unset, .unset, .unset]) rfl) ?_
    show Goes _ _ _ _ T (mkF m 36 #[.val (.int p0), .val (.int p1), .val (.int p2), .val (.int (p0 &&& (1073741823 : Int32))), .val (.int p1), .val (.int (bi (¬ ((p2 &&& (1 : Int32)) = (0 : Int32))))), .unset, .unset, .unset, .unset] [])
    refine Goes.go (fun _ => XS.iloadN S.here B.x rfl (B.d at_36) rfl) ?_
    show Goes _ _ _ _ T (mkF m 37 #[.val (.int p0), .val (.int p1), .val (.int p2), .val (.int (p0 &&& (1073741823 : Int32))), .val (.int p1), .val (.int (bi (¬ ((p2 &&& (1 : Int32)) = (0 : Int32))))), .unset, .unset, .unset, .unset] [(.int p2)])
    refine Goes.go (fun _ => XS.iconst S.here B.x rfl (B.d at_37)) ?_
    show Goes _ _ _ _ T (mkF m 38 #[.val (.int p0), .val (.int p1), .val (.int p2), .val (.int (p0 &&& (1073741823 : Int32))), .val (.int p1), .val (.int (bi (¬ ((p2 &&& (1 : Int32)) = (0 : Int32))))), .unset, .unset, .unset, .unset] [(.int (2 : Int32)), (.int p2)])
    refine Goes.go (fun _ => XS.iand S.here B.x rfl (B.d at_38) rfl) ?_
    show Goes _ _ _ _ T (mkF m 39 #[.val (.int p0), .val (.int p1), .val (.int p2), .val (.int (p0 &&& (1073741823 : Int32))), .val (.int p1), .val (.int (bi (¬ ((p2 &&& (1 : Int32)) = (0 : Int32))))), .unset, .unset, .unset, .unset] [(.int (p2 &&& (2 : Int32)))])
    refine Goes.dia (P := ¬ ((p2 &&& (2 : Int32)) = (0 : Int32))) (mk := fun z => (mkF m 47 #[.val (.int p0), .val (.int p1), .val (.int p2), .val (.int (p0 &&& (1073741823 : Int32))), .val (.int p1), .val (.int (bi (¬ ((p2 &&& (1 : Int32)) = (0 : Int32))))), .unset, .unset, .unset, .unset] [(.int z)])) (fun hc39 kk => ?_) (fun hc39 kk => ?_) ?_
    · skip
      refine Goes.go (fun _ => XS.ifNo S.here B.x rfl (B.d at_39) rfl ((if0 _ _).trans (feq hc39).1)) ?_
      show Goes _ _ _ _ T (mkF m 42 #[.val (.int p0), .val (.int p1), .val (.int p2), .val (.int (p0 &&& (1073741823 : Int32))), .val (.int p1), .val (.int (bi (¬ ((p2 &&& (1 : Int32)) = (0 : Int32))))), .unset, .unset, .unset, .unset] [])
      refine Goes.go (fun _ => XS.iconst S.here B.x rfl (B.d at_42)) ?_
      show Goes _ _ _ _ T (mkF m 43 #[.val (.int p0), .val (.int p1), .val (.int p2), .val (.int (p0 &&& (1073741823 : Int32))), .val (.int p1), .val (.int (bi (¬ ((p2 &&& (1 : Int32)) = (0 : Int32))))), .unset, .unset, .unset, .unset] [(.int (1 : Int32))])
      refine Goes.go (fun _ => XS.goto S.here B.x rfl (pc0 := 43) (pc' := 47) rfl (B.d at_43) (by decide) (by decide)) ?_
      show Goes _ _ _ _ T (mkF m 47 #[.val (.int p0), .val (.int p1), .val (.int p2), .val (.int (p0 &&& (1073741823 : Int32))), .val (.int p1), .val (.int (bi (¬ ((p2 &&& (1 : Int32)) = (0 : Int32))))), .unset, .unset, .unset, .unset] [(.int (1 : Int32))])
      exact kk
    · skip
      refine Goes.go (fun _ => XS.ifYes S.here B.x rfl (pc0 := 39) (pc' := 46) rfl (B.d at_39) rfl ((if0 _ _).trans (teq (Classical.not_not.mp hc39)).1) (by decide) (by decide)) ?_
      show Goes _ _ _ _ T (mkF m 46 #[.val (.int p0), .val (.int p1), .val (.int p2), .val (.int (p0 &&& (1073741823 : Int32))), .val (.int p1), .val (.int (bi (¬ ((p2 &&& (1 : Int32)) = (0 : Int32))))), .unset, .unset, .unset, .unset] [])
      refine Goes.go (fun _ => XS.iconst S.here B.x rfl (B.d at_46)) ?_
      show Goes _ _ _ _ T (mkF m 47 #[.val (.int p0), .val (.int p1), .val (.int p2), .val (.int (p0 &&& (1073741823 : Int32))), .val (.int p1), .val (.int (bi (¬ ((p2 &&& (1 : Int32)) = (0 : Int32))))), .unset, .unset, .unset, .unset] [(.int (0 : Int32))])
      exact kk
    show Goes _ _ _ _ T (mkF m 47 #[.val (.int p0), .val (.int p1), .val (.int p2), .val (.int (p0 &&& (1073741823 : Int32))), .val (.int p1), .val (.int (bi (¬ ((p2 &&& (1 : Int32)) = (0 : Int32))))), .unset, .unset, .unset, .unset] [(.int (bi (¬ ((p2 &&& (2 : Int32)) = (0 : Int32)))))])
    refine Goes.go (fun _ => XS.istore S.here B.x rfl (B.d at_47) rfl (l' := #[.val (.int p0), .val (.int p1), .val (.int p2), .val (.int (p0 &&& (1073741823 : Int32))), .val (.int p1), .val (.int (bi (¬ ((p2 &&& (1 : Int32)) = (0 : Int32))))), .val (.int (bi (¬ ((p2 &&& (2 : Int32)) = (0 : Int32))))), .unset, .unset, .unset]) rfl) ?_
    show Goes _ _ _ _ T (mkF m 49 #[.val (.int p0), .val (.int p1), .val (.int p2), .val (.int (p0 &&& (1073741823 : Int32))), .val (.int p1), .val (.int (bi (¬ ((p2 &&& (1 : Int32)) = (0 : Int32))))), .val (.int (bi (¬ ((p2 &&& (2 : Int32)) = (0 : Int32))))), .unset, .unset, .unset] [])
    refine Goes.newO S B (w1 hw) (w2 hw) (w3 hw) at_49 (by decide) (by decide) ?_
    intro T h b1 S X zb g_b1 E_b1 D
    have F_b1_depth : Fld Z h b1 "com/example/arbitrary_objects/arbitraryobjects/engine/Cuts$Standing" "depth" "I" (.int (0 : Int32)) := D (Or.inr (w16 hw)) (ty := .int) (by decide)
    have F_b1_deepestWithParts : Fld Z h b1 "com/example/arbitrary_objects/arbitraryobjects/engine/Cuts$Standing" "deepestWithParts" "I" (.int (0 : Int32)) := D (Or.inr (w18 hw)) (ty := .int) (by decide)
    have F_b1_holdsNoParts : Fld Z h b1 "com/example/arbitrary_objects/arbitraryobjects/engine/Cuts$Standing" "holdsNoParts" "Z" (.int (0 : Int32)) := D (Or.inr (w20 hw)) (ty := .boolean) (by decide)
    have F_b1_pastRepetition : Fld Z h b1 "com/example/arbitrary_objects/arbitraryobjects/engine/Cuts$Standing" "pastRepetition" "Z" (.int (0 : Int32)) := D (Or.inr (w22 hw)) (ty := .boolean) (by decide)
    show Goes _ _ _ _ T (mkF m 52 #[.val (.int p0), .val (.int p1), .val (.int p2), .val (.int (p0 &&& (1073741823 : Int32))), .val (.int p1), .val (.int (bi (¬ ((p2 &&& (1 : Int32)) = (0 : Int32))))), .val (.int (bi (¬ ((p2 &&& (2 : Int32)) = (0 : Int32))))), .unset, .unset, .unset] [(.ref b1)])
    refine Goes.go (fun _ => XS.dup S.here B.x rfl (B.d at_52) rfl rfl) ?_
    show Goes _ _ _ _ T (mkF m 53 #[.val (.int p0), .val (.int p1), .val (.int p2), .val (.int (p0 &&& (1073741823 : Int32))), .val (.int p1), .val (.int (bi (¬ ((p2 &&& (1 : Int32)) = (0 : Int32))))), .val (.int (bi (¬ ((p2 &&& (2 : Int32)) = (0 : Int32))))), .unset, .unset, .unset] [(.ref b1), (.ref b1)])
    refine Goes.go (fun _ => XS.iloadN S.here B.x rfl (B.d at_53) rfl) ?_
    show Goes _ _ _ _ T (mkF m 54 #[.val (.int p0), .val (.int p1), .val (.int p2), .val (.int (p0 &&& (1073741823 : Int32))), .val (.int p1), .val (.int (bi (¬ ((p2 &&& (1 : Int32)) = (0 : Int32))))), .val (.int (bi (¬ ((p2 &&& (2 : Int32)) = (0 : Int32))))), .unset, .unset, .unset] [(.int (p0 &&& (1073741823 : Int32))), (.ref b1), (.ref b1)])
    refine Goes.go (fun _ => XS.iload S.here B.x rfl (B.d at_54) rfl) ?_
    show Goes _ _ _ _ T (mkF m 56 #[.val (.int p0), .val (.int p1), .val (.int p2), .val (.int (p0 &&& (1073741823 : Int32))), .val (.int p1), .val (.int (bi (¬ ((p2 &&& (1 : Int32)) = (0 : Int32))))), .val (.int (bi (¬ ((p2 &&& (2 : Int32)) = (0 : Int32))))), .unset, .unset, .unset] [(.int p1), (.int (p0 &&& (1073741823 : Int32))), (.ref b1), (.ref b1)])
    refine Goes.go (fun _ => XS.iload S.here B.x rfl (B.d at_56) rfl) ?_
    show Goes _ _ _ _ T (mkF m 58 #[.val (.int p0), .val (.int p1), .val (.int p2), .val (.int (p0 &&& (1073741823 : Int32))), .val (.int p1), .val (.int (bi (¬ ((p2 &&& (1 : Int32)) = (0 : Int32))))), .val (.int (bi (¬ ((p2 &&& (2 : Int32)) = (0 : Int32))))), .unset, .unset, .unset] [(.int (bi (¬ ((p2 &&& (1 : Int32)) = (0 : Int32))))), (.int p1), (.int (p0 &&& (1073741823 : Int32))), (.ref b1), (.ref b1)])
    refine Goes.go (fun _ => XS.iload S.here B.x rfl (B.d at_58) rfl) ?_
    show Goes _ _ _ _ T (mkF m 60 #[.val (.int p0), .val (.int p1), .val (.int p2), .val (.int (p0 &&& (1073741823 : Int32))), .val (.int p1), .val (.int (bi (¬ ((p2 &&& (1 : Int32)) = (0 : Int32))))), .val (.int (bi (¬ ((p2 &&& (2 : Int32)) = (0 : Int32))))), .unset, .unset, .unset] [(.int (bi (¬ ((p2 &&& (2 : Int32)) = (0 : Int32))))), (.int (bi (¬ ((p2 &&& (1 : Int32)) = (0 : Int32))))), (.int p1), (.int (p0 &&& (1073741823 : Int32))), (.ref b1), (.ref b1)])
    refine Goes.callI (argsL := [(.int (p0 &&& (1073741823 : Int32))), (.int p1), (.int (bi (¬ ((p2 &&& (1 : Int32)) = (0 : Int32))))), (.int (bi (¬ ((p2 &&& (2 : Int32)) = (0 : Int32)))))]) (rest := [(.ref b1)]) (W := 1) S B (rmI l Z aw hw b1 (p0 &&& (1073741823 : Int32)) p1 (bi (¬ ((p2 &&& (1 : Int32)) = (0 : Int32)))) (bi (¬ ((p2 &&& (2 : Int32)) = (0 : Int32)))) _ n0 E_b1 F_b1_depth F_b1_deepestWithParts F_b1_holdsNoParts F_b1_pastRepetition g_b1 bi_or bi_or) (w4 hw) (w5 hw) (w3 hw) (w6 hw) (by decide) rfl (by decide) (by decide) (by decide) (by decide) rfl (lenOf pd_1 rfl) rfl (Nat.le_of_eq rfl) at_60 ?_
    intro v T h S hQ
    obtain ⟨rfl, Kc, E_b1', F_b1_depth', F_b1_deepestWithParts', F_b1_holdsNoParts', F_b1_pastRepetition'⟩ := hQ
    replace E_b1 := E_b1'
    replace F_b1_depth := F_b1_depth'
    replace F_b1_deepestWithParts := F_b1_deepestWithParts'
    replace F_b1_holdsNoParts := F_b1_holdsNoParts'
    replace F_b1_pastRepetition := F_b1_pastRepetition'
    show Goes _ _ _ _ T (mkF m 63 #[.val (.int p0), .val (.int p1), .val (.int p2), .val (.int (p0 &&& (1073741823 : Int32))), .val (.int p1), .val (.int (bi (¬ ((p2 &&& (1 : Int32)) = (0 : Int32))))), .val (.int (bi (¬ ((p2 &&& (2 : Int32)) = (0 : Int32))))), .unset, .unset, .unset] [(.ref b1)])
    refine Goes.go (fun _ => XS.astore S.here B.x rfl (B.d at_63) rfl rfl (l' := #[.val (.int p0), .val (.int p1), .val (.int p2), .val (.int (p0 &&& (1073741823 : Int32))), .val (.int p1), .val (.int (bi (¬ ((p2 &&& (1 : Int32)) = (0 : Int32))))), .val (.int (bi (¬ ((p2 &&& (2 : Int32)) = (0 : Int32))))), .val (.ref b1), .unset, .unset]) rfl) ?_
    show Goes _ _ _ _ T (mkF m 65 #[.val (.int p0), .val (.int p1), .val (.int p2), .val (.int (p0 &&& (1073741823 : Int32))), .val (.int p1), .val (.int (bi (¬ ((p2 &&& (1 : Int32)) = (0 : Int32))))), .val (.int (bi (¬ ((p2 &&& (2 : Int32)) = (0 : Int32))))), .val (.ref b1), .unset, .unset] [])
    refine Goes.go (fun _ => XS.iload S.here B.x rfl (B.d at_65) rfl) ?_
    show Goes _ _ _ _ T (mkF m 67 #[.val (.int p0), .val (.int p1), .val (.int p2), .val (.int (p0 &&& (1073741823 : Int32))), .val (.int p1), .val (.int (bi (¬ ((p2 &&& (1 : Int32)) = (0 : Int32))))), .val (.int (bi (¬ ((p2 &&& (2 : Int32)) = (0 : Int32))))), .val (.ref b1), .unset, .unset] [(.int (bi (¬ ((p2 &&& (1 : Int32)) = (0 : Int32)))))])
    by_cases hc67 : ¬ ((p2 &&& (1 : Int32)) = (0 : Int32))
    · skip
      refine Goes.go (fun _ => XS.ifYes S.here B.x rfl (pc0 := 67) (pc' := 87) rfl (B.d at_67) rfl ((if0 _ _).trans (feq (bi_ne hc67)).2) (by decide) (by decide)) ?_
      show Goes _ _ _ _ T (mkF m 87 #[.val (.int p0), .val (.int p1), .val (.int p2), .val (.int (p0 &&& (1073741823 : Int32))), .val (.int p1), .val (.int (bi (¬ ((p2 &&& (1 : Int32)) = (0 : Int32))))), .val (.int (bi (¬ ((p2 &&& (2 : Int32)) = (0 : Int32))))), .val (.ref b1), .unset, .unset] [])
      refine Goes.go (fun _ => XS.iconst S.here B.x rfl (B.d at_87)) ?_
      show Goes _ _ _ _ T (mkF m 88 #[.val (.int p0), .val (.int p1), .val (.int p2), .val (.int (p0 &&& (1073741823 : Int32))), .val (.int p1), .val (.int (bi (¬ ((p2 &&& (1 : Int32)) = (0 : Int32))))), .val (.int (bi (¬ ((p2 &&& (2 : Int32)) = (0 : Int32))))), .val (.ref b1), .unset, .unset] [(.int (0 : Int32))])
      refine Goes.go (fun _ => XS.istore S.here B.x rfl (B.d at_88) rfl (l' := #[.val (.int p0), .val (.int p1), .val (.int p2), .val (.int (p0 &&& (1073741823 : Int32))), .val (.int p1), .val (.int (bi (¬ ((p2 &&& (1 : Int32)) = (0 : Int32))))), .val (.int (bi (¬ ((p2 &&& (2 : Int32)) = (0 : Int32))))), .val (.ref b1), .val (.int (0 : Int32)), .unset]) rfl) ?_
      show Goes _ _ _ _ T (mkF m 90 #[.val (.int p0), .val (.int p1), .val (.int p2), .val (.int (p0 &&& (1073741823 : Int32))), .val (.int p1), .val (.int (bi (¬ ((p2 &&& (1 : Int32)) = (0 : Int32))))), .val (.int (bi (¬ ((p2 &&& (2 : Int32)) = (0 : Int32))))), .val (.ref b1), .val (.int (0 : Int32)), .unset] [])
      refine Goes.go (fun _ => XS.aload S.here B.x rfl (B.d at_90) rfl rfl) ?_
      show Goes _ _ _ _ T (mkF m 92 #[.val (.int p0), .val (.int p1), .val (.int p2), .val (.int (p0 &&& (1073741823 : Int32))), .val (.int p1), .val (.int (bi (¬ ((p2 &&& (1 : Int32)) = (0 : Int32))))), .val (.int (bi (¬ ((p2 &&& (2 : Int32)) = (0 : Int32))))), .val (.ref b1), .val (.int (0 : Int32)), .unset] [(.ref b1)])
      refine Goes.callV (argsL := []) (rest := []) (W := 0) S B (rm_cango l Z aw hw b1 (p0 &&& (1073741823 : Int32)) p1 (bi (¬ ((p2 &&& (1 : Int32)) = (0 : Int32)))) _ n0 F_b1_depth F_b1_deepestWithParts F_b1_holdsNoParts) E_b1 (w24 hw) (w25 hw) (w27 hw) (w26 hw) (w3 hw) (w28 hw) (by decide) (by decide) (by decide) (by decide) (by decide) rfl (lenOf pd_2 rfl) rfl (Nat.le_of_eq rfl) at_92 ?_
      intro v T h S hQ
      obtain ⟨rfl, hh⟩ := hQ
      replace hh := hh.symm
      subst hh
      show Goes _ _ _ _ T (mkF m 95 #[.val (.int p0), .val (.int p1), .val (.int p2), .val (.int (p0 &&& (1073741823 : Int32))), .val (.int p1), .val (.int (bi (¬ ((p2 &&& (1 : Int32)) = (0 : Int32))))), .val (.int (bi (¬ ((p2 &&& (2 : Int32)) = (0 : Int32))))), .val (.ref b1), .val (.int (0 : Int32)), .unset] [(.int (bi ((bi (¬ ((p2 &&& (1 : Int32)) = (0 : Int32)))) = (0 : Int32) ∧ p1 < ((p0 &&& (1073741823 : Int32)) + (8 : Int32)))))])
      refine Goes.go (fun _ => XS.iload S.here B.x rfl (B.d at_95) rfl) ?_
      show Goes _ _ _ _ T (mkF m 97 #[.val (.int p0), .val (.int p1), .val (.int p2), .val (.int (p0 &&& (1073741823 : Int32))), .val (.int p1), .val (.int (bi (¬ ((p2 &&& (1 : Int32)) = (0 : Int32))))), .val (.int (bi (¬ ((p2 &&& (2 : Int32)) = (0 : Int32))))), .val (.ref b1), .val (.int (0 : Int32)), .unset] [(.int (0 : Int32)), (.int (bi ((bi (¬ ((p2 &&& (1 : Int32)) = (0 : Int32)))) = (0 : Int32) ∧ p1 < ((p0 &&& (1073741823 : Int32)) + (8 : Int32)))))])
      refine Goes.go (fun _ => XS.icmpYes S.here B.x rfl (pc0 := 97) (pc' := 102) rfl (B.d at_97) rfl (teq (bi_neg (fun q => bi_ne hc67 q.1) : (bi ((bi (¬ ((p2 &&& (1 : Int32)) = (0 : Int32)))) = (0 : Int32) ∧ p1 < ((p0 &&& (1073741823 : Int32)) + (8 : Int32)))) = (0 : Int32))).1 (by decide) (by decide)) ?_
      show Goes _ _ _ _ T (mkF m 102 #[.val (.int p0), .val (.int p1), .val (.int p2), .val (.int (p0 &&& (1073741823 : Int32))), .val (.int p1), .val (.int (bi (¬ ((p2 &&& (1 : Int32)) = (0 : Int32))))), .val (.int (bi (¬ ((p2 &&& (2 : Int32)) = (0 : Int32))))), .val (.ref b1), .val (.int (0 : Int32)), .unset] [])
      refine Goes.go (fun _ => XS.aload S.here B.x rfl (B.d at_102) rfl rfl) ?_
      show Goes _ _ _ _ T (mkF m 104 #[.val (.int p0), .val (.int p1), .val (.int p2), .val (.int (p0 &&& (1073741823 : Int32))), .val (.int p1), .val (.int (bi (¬ ((p2 &&& (1 : Int32)) = (0 : Int32))))), .val (.int (bi (¬ ((p2 &&& (2 : Int32)) = (0 : Int32))))), .val (.ref b1), .val (.int (0 : Int32)), .unset] [(.ref b1)])
      have zle := S.le
      refine Goes.callV (argsL := []) (rest := []) (W := 0) S B (rm_deeper l Z aw hw b1 (p0 &&& (1073741823 : Int32)) p1 (bi (¬ ((p2 &&& (1 : Int32)) = (0 : Int32)))) (bi (¬ ((p2 &&& (2 : Int32)) = (0 : Int32)))) _ n0 E_b1 F_b1_depth F_b1_deepestWithParts F_b1_holdsNoParts F_b1_pastRepetition bi_or bi_or) E_b1 (w29 hw) (w30 hw) (w32 hw) (w31 hw) (w3 hw) (w33 hw) (by decide) (by decide) (by decide) (by decide) (by decide) rfl (lenOf pd_3 rfl) rfl (Nat.le_of_eq rfl) at_104 ?_
      intro v T h S hQ
      obtain ⟨b2, rfl, zb, Kc, E_b2', F_b2_depth', F_b2_deepestWithParts', F_b2_holdsNoParts', F_b2_pastRepetition'⟩ := hQ
      have ne_b1__b2 : b1 ≠ b2 := Nat.ne_of_lt (Nat.lt_of_lt_of_le E_b1.lt zb)
      have g_b2 : n0 ≤ b2 := Nat.le_trans zle zb
      replace E_b1 := E_b1.keep Kc
      replace F_b1_depth := F_b1_depth.keep Kc nin0
      replace F_b1_deepestWithParts := F_b1_deepestWithParts.keep Kc nin0
      replace F_b1_holdsNoParts := F_b1_holdsNoParts.keep Kc nin0
      replace F_b1_pastRepetition := F_b1_pastRepetition.keep Kc nin0
      have E_b2 := E_b2'
      have F_b2_depth := F_b2_depth'
      have F_b2_deepestWithParts := F_b2_deepestWithParts'
      have F_b2_holdsNoParts := F_b2_holdsNoParts'
      have F_b2_pastRepetition := F_b2_pastRepetition'
      show Goes _ _ _ _ T (mkF m 107 #[.val (.int p0), .val (.int p1), .val (.int p2), .val (.int (p0 &&& (1073741823 : Int32))), .val (.int p1), .val (.int (bi (¬ ((p2 &&& (1 : Int32)) = (0 : Int32))))), .val (.int (bi (¬ ((p2 &&& (2 : Int32)) = (0 : Int32))))), .val (.ref b1), .val (.int (0 : Int32)), .unset] [(.ref b2)])
      refine Goes.go (fun _ => XS.astore S.here B.x rfl (B.d at_107) rfl rfl (l' := #[.val (.int p0), .val (.int p1), .val (.int p2), .val (.int (p0 &&& (1073741823 : Int32))), .val (.int p1), .val (.int (bi (¬ ((p2 &&& (1 : Int32)) = (0 : Int32))))), .val (.int (bi (¬ ((p2 &&& (2 : Int32)) = (0 : Int32))))), .val (.ref b1), .val (.int (0 : Int32)), .val (.ref b2)]) rfl) ?_
      show Goes _ _ _ _ T (mkF m 109 #[.val (.int p0), .val (.int p1), .val (.int p2), .val (.int (p0 &&& (1073741823 : Int32))), .val (.int p1), .val (.int (bi (¬ ((p2 &&& (1 : Int32)) = (0 : Int32))))), .val (.int (bi (¬ ((p2 &&& (2 : Int32)) = (0 : Int32))))), .val (.ref b1), .val (.int (0 : Int32)), .val (.ref b2)] [])
      refine Goes.go (fun _ => XS.aload S.here B.x rfl (B.d at_109) rfl rfl) ?_
      show Goes _ _ _ _ T (mkF m 111 #[.val (.int p0), .val (.int p1), .val (.int p2), .val (.int (p0 &&& (1073741823 : Int32))), .val (.int p1), .val (.int (bi (¬ ((p2 &&& (1 : Int32)) = (0 : Int32))))), .val (.int (bi (¬ ((p2 &&& (2 : Int32)) = (0 : Int32))))), .val (.ref b1), .val (.int (0 : Int32)), .val (.ref b2)] [(.ref b2)])
      refine Goes.callV (argsL := []) (rest := []) (W := 0) S B (rm_cango l Z aw hw b2 (p0 &&& (1073741823 : Int32)) ((p0 &&& (1073741823 : Int32)) + (8 : Int32)) (bi (¬ ((p2 &&& (1 : Int32)) = (0 : Int32)))) _ n0 F_b2_depth F_b2_deepestWithParts F_b2_holdsNoParts) E_b2 (w24 hw) (w25 hw) (w27 hw) (w26 hw) (w3 hw) (w28 hw) (by decide) (by decide) (by decide) (by decide) (by decide) rfl (lenOf pd_2 rfl) rfl (Nat.le_of_eq rfl) at_111 ?_
      intro v T h S hQ
      obtain ⟨rfl, hh⟩ := hQ
      replace hh := hh.symm
      subst hh
      show Goes _ _ _ _ T (mkF m 114 #[.val (.int p0), .val (.int p1), .val (.int p2), .val (.int (p0 &&& (1073741823 : Int32))), .val (.int p1), .val (.int (bi (¬ ((p2 &&& (1 : Int32)) = (0 : Int32))))), .val (.int (bi (¬ ((p2 &&& (2 : Int32)) = (0 : Int32))))), .val (.ref b1), .val (.int (0 : Int32)), .val (.ref b2)] [(.int (bi ((bi (¬ ((p2 &&& (1 : Int32)) = (0 : Int32)))) = (0 : Int32) ∧ ((p0 &&& (1073741823 : Int32)) + (8 : Int32)) < ((p0 &&& (1073741823 : Int32)) + (8 : Int32)))))])
      refine Goes.go (fun _ => XS.ifYes S.here B.x rfl (pc0 := 114) (pc' := 119) rfl (B.d at_114) rfl ((if0 _ _).trans (teq (bi_neg (fun q => own_irr _ q.2 : ¬ ((bi (¬ ((p2 &&& (1 : Int32)) = (0 : Int32)))) = (0 : Int32) ∧ ((p0 &&& (1073741823 : Int32)) + (8 : Int32)) < ((p0 &&& (1073741823 : Int32)) + (8 : Int32)))))).1) (by decide) (by decide)) ?_
      show Goes _ _ _ _ T (mkF m 119 #[.val (.int p0), .val (.int p1), .val (.int p2), .val (.int (p0 &&& (1073741823 : Int32))), .val (.int p1), .val (.int (bi (¬ ((p2 &&& (1 : Int32)) = (0 : Int32))))), .val (.int (bi (¬ ((p2 &&& (2 : Int32)) = (0 : Int32))))), .val (.ref b1), .val (.int (0 : Int32)), .val (.ref b2)] [])
      refine Goes.go (fun _ => XS.aload S.here B.x rfl (B.d at_119) rfl rfl) ?_
      show Goes _ _ _ _ T (mkF m 121 #[.val (.int p0), .val (.int p1), .val (.int p2), .val (.int (p0 &&& (1073741823 : Int32))), .val (.int p1), .val (.int (bi (¬ ((p2 &&& (1 : Int32)) = (0 : Int32))))), .val (.int (bi (¬ ((p2 &&& (2 : Int32)) = (0 : Int32))))), .val (.ref b1), .val (.int (0 : Int32)), .val (.ref b2)] [(.ref b2)])
      have zle := S.le
      refine Goes.callV (argsL := []) (rest := []) (W := 0) S B (rm_ofpart l Z aw hw b2 (p0 &&& (1073741823 : Int32)) ((p0 &&& (1073741823 : Int32)) + (8 : Int32)) (bi (¬ ((p2 &&& (1 : Int32)) = (0 : Int32)))) (bi (¬ ((p2 &&& (2 : Int32)) = (0 : Int32)))) _ n0 E_b2 F_b2_depth F_b2_deepestWithParts F_b2_holdsNoParts F_b2_pastRepetition) E_b2 (w36 hw) (w37 hw) (w39 hw) (w38 hw) (w3 hw) (w40 hw) (by decide) (by decide) (by decide) (by decide) (by decide) rfl (lenOf pd_3 rfl) rfl (Nat.le_of_eq rfl) at_121 ?_
      intro v T h S hQ
      obtain ⟨b3, rfl, zb, Kc, E_b3', F_b3_depth', F_b3_deepestWithParts', F_b3_holdsNoParts', F_b3_pastRepetition'⟩ := hQ
      have ne_b1__b3 : b1 ≠ b3 := Nat.ne_of_lt (Nat.lt_of_lt_of_le E_b1.lt zb)
      have ne_b2__b3 : b2 ≠ b3 := Nat.ne_of_lt (Nat.lt_of_lt_of_le E_b2.lt zb)
      have g_b3 : n0 ≤ b3 := Nat.le_trans zle zb
      replace E_b1 := E_b1.keep Kc
      replace F_b1_depth := F_b1_depth.keep Kc nin0
      replace F_b1_deepestWithParts := F_b1_deepestWithParts.keep Kc nin0
      replace F_b1_holdsNoParts := F_b1_holdsNoParts.keep Kc nin0
      replace F_b1_pastRepetition := F_b1_pastRepetition.keep Kc nin0
      replace E_b2 := E_b2.keep Kc
      replace F_b2_depth := F_b2_depth.keep Kc nin0
      replace F_b2_deepestWithParts := F_b2_deepestWithParts.keep Kc nin0
      replace F_b2_holdsNoParts := F_b2_holdsNoParts.keep Kc nin0
      replace F_b2_pastRepetition := F_b2_pastRepetition.keep Kc nin0
      have E_b3 := E_b3'
      have F_b3_depth := F_b3_depth'
      have F_b3_deepestWithParts := F_b3_deepestWithParts'
      have F_b3_holdsNoParts := F_b3_holdsNoParts'
      have F_b3_pastRepetition := F_b3_pastRepetition'
      show Goes _ _ _ _ T (mkF m 124 #[.val (.int p0), .val (.int p1), .val (.int p2), .val (.int (p0 &&& (1073741823 : Int32))), .val (.int p1), .val (.int (bi (¬ ((p2 &&& (1 : Int32)) = (0 : Int32))))), .val (.int (bi (¬ ((p2 &&& (2 : Int32)) = (0 : Int32))))), .val (.ref b1), .val (.int (0 : Int32)), .val (.ref b2)] [(.ref b3)])
      refine Goes.callV (argsL := []) (rest := []) (W := 0) S B (rm_cango l Z aw hw b3 ((p0 &&& (1073741823 : Int32)) + (1 : Int32)) ((p0 &&& (1073741823 : Int32)) + (8 : Int32)) (0 : Int32) _ n0 F_b3_depth F_b3_deepestWithParts F_b3_holdsNoParts) E_b3 (w24 hw) (w25 hw) (w27 hw) (w26 hw) (w3 hw) (w28 hw) (by decide) (by decide) (by decide) (by decide) (by decide) rfl (lenOf pd_2 rfl) rfl (Nat.le_of_eq rfl) at_124 ?_
      intro v T h S hQ
      obtain ⟨rfl, hh⟩ := hQ
      replace hh := hh.symm
      subst hh
      show Goes _ _ _ _ T (mkF m 127 #[.val (.int p0), .val (.int p1), .val (.int p2), .val (.int (p0 &&& (1073741823 : Int32))), .val (.int p1), .val (.int (bi (¬ ((p2 &&& (1 : Int32)) = (0 : Int32))))), .val (.int (bi (¬ ((p2 &&& (2 : Int32)) = (0 : Int32))))), .val (.ref b1), .val (.int (0 : Int32)), .val (.ref b2)] [(.int (bi ((0 : Int32) = (0 : Int32) ∧ ((p0 &&& (1073741823 : Int32)) + (8 : Int32)) < (((p0 &&& (1073741823 : Int32)) + (1 : Int32)) + (8 : Int32)))))])
      refine Goes.go (fun _ => XS.ifYes S.here B.x rfl (pc0 := 127) (pc' := 132) rfl (B.d at_127) rfl ((if0 _ _).trans (feq (bi_ne (⟨rfl, own_up _ (own_mask p0)⟩ : (0 : Int32) = (0 : Int32) ∧ ((p0 &&& (1073741823 : Int32)) + (8 : Int32)) < (((p0 &&& (1073741823 : Int32)) + (1 : Int32)) + (8 : Int32))))).2) (by decide) (by decide)) ?_
      show Goes _ _ _ _ T (mkF m 132 #[.val (.int p0), .val (.int p1), .val (.int p2), .val (.int (p0 &&& (1073741823 : Int32))), .val (.int p1), .val (.int (bi (¬ ((p2 &&& (1 : Int32)) = (0 : Int32))))), .val (.int (bi (¬ ((p2 &&& (2 : Int32)) = (0 : Int32))))), .val (.ref b1), .val (.int (0 : Int32)), .val (.ref b2)] [])
      refine Goes.go (fun _ => XS.iconst S.here B.x rfl (B.d at_132)) ?_
      show Goes _ _ _ _ T (mkF m 133 #[.val (.int p0), .val (.int p1), .val (.int p2), .val (.int (p0 &&& (1073741823 : Int32))), .val (.int p1), .val (.int (bi (¬ ((p2 &&& (1 : Int32)) = (0 : Int32))))), .val (.int (bi (¬ ((p2 &&& (2 : Int32)) = (0 : Int32))))), .val (.ref b1), .val (.int (0 : Int32)), .val (.ref b2)] [(.int (1 : Int32))])
      refine Goes.retN S B (by simp) at_133 (by decide) (by decide) ?_
      exact rfl
    · skip
      refine Goes.go (fun _ => XS.ifNo S.here B.x rfl (B.d at_67) rfl ((if0 _ _).trans (teq (bi_neg hc67)).2)) ?_
      show Goes _ _ _ _ T (mkF m 70 #[.val (.int p0), .val (.int p1), .val (.int p2), .val (.int (p0 &&& (1073741823 : Int32))), .val (.int p1), .val (.int (bi (¬ ((p2 &&& (1 : Int32)) = (0 : Int32))))), .val (.int (bi (¬ ((p2 &&& (2 : Int32)) = (0 : Int32))))), .val (.ref b1), .unset, .unset] [])
      refine Goes.go (fun _ => XS.iload S.here B.x rfl (B.d at_70) rfl) ?_
      show Goes _ _ _ _ T (mkF m 72 #[.val (.int p0), .val (.int p1), .val (.int p2), .val (.int (p0 &&& (1073741823 : Int32))), .val (.int p1), .val (.int (bi (¬ ((p2 &&& (1 : Int32)) = (0 : Int32))))), .val (.int (bi (¬ ((p2 &&& (2 : Int32)) = (0 : Int32))))), .val (.ref b1), .unset, .unset] [(.int p1)])
      refine Goes.go (fun _ => XS.i2l S.here B.x rfl (B.d at_72) rfl) ?_
      show Goes _ _ _ _ T (mkF m 73 #[.val (.int p0), .val (.int p1), .val (.int p2), .val (.int (p0 &&& (1073741823 : Int32))), .val (.int p1), .val (.int (bi (¬ ((p2 &&& (1 : Int32)) = (0 : Int32))))), .val (.int (bi (¬ ((p2 &&& (2 : Int32)) = (0 : Int32))))), .val (.ref b1), .unset, .unset] [(.long p1.toInt64)])
      refine Goes.go (fun _ => XS.iloadN S.here B.x rfl (B.d at_73) rfl) ?_
      show Goes _ _ _ _ T (mkF m 74 #[.val (.int p0), .val (.int p1), .val (.int p2), .val (.int (p0 &&& (1073741823 : Int32))), .val (.int p1), .val (.int (bi (¬ ((p2 &&& (1 : Int32)) = (0 : Int32))))), .val (.int (bi (¬ ((p2 &&& (2 : Int32)) = (0 : Int32))))), .val (.ref b1), .unset, .unset] [(.int (p0 &&& (1073741823 : Int32))), (.long p1.toInt64)])
      refine Goes.go (fun _ => XS.i2l S.here B.x rfl (B.d at_74) rfl) ?_
      show Goes _ _ _ _ T (mkF m 75 #[.val (.int p0), .val (.int p1), .val (.int p2), .val (.int (p0 &&& (1073741823 : Int32))), .val (.int p1), .val (.int (bi (¬ ((p2 &&& (1 : Int32)) = (0 : Int32))))), .val (.int (bi (¬ ((p2 &&& (2 : Int32)) = (0 : Int32))))), .val (.ref b1), .unset, .unset] [(.long (p0 &&& (1073741823 : Int32)).toInt64), (.long p1.toInt64)])
      refine Goes.go (fun _ => XS.lsub S.here B.x rfl (B.d at_75) rfl) ?_
      show Goes _ _ _ _ T (mkF m 76 #[.val (.int p0), .val (.int p1), .val (.int p2), .val (.int (p0 &&& (1073741823 : Int32))), .val (.int p1), .val (.int (bi (¬ ((p2 &&& (1 : Int32)) = (0 : Int32))))), .val (.int (bi (¬ ((p2 &&& (2 : Int32)) = (0 : Int32))))), .val (.ref b1), .unset, .unset] [(.long (p1.toInt64 - (p0 &&& (1073741823 : Int32)).toInt64))])
      refine Goes.ldcL S B (w23 hw) at_76 ?_
      show Goes _ _ _ _ T (mkF m 79 #[.val (.int p0), .val (.int p1), .val (.int p2), .val (.int (p0 &&& (1073741823 : Int32))), .val (.int p1), .val (.int (bi (¬ ((p2 &&& (1 : Int32)) = (0 : Int32))))), .val (.int (bi (¬ ((p2 &&& (2 : Int32)) = (0 : Int32))))), .val (.ref b1), .unset, .unset] [(.long (8 : Int64)), (.long (p1.toInt64 - (p0 &&& (1073741823 : Int32)).toInt64))])
      refine Goes.go (fun _ => XS.lcmp S.here B.x rfl (B.d at_79) rfl) ?_
      show Goes _ _ _ _ T (mkF m 80 #[.val (.int p0), .val (.int p1), .val (.int p2), .val (.int (p0 &&& (1073741823 : Int32))), .val (.int p1), .val (.int (bi (¬ ((p2 &&& (1 : Int32)) = (0 : Int32))))), .val (.int (bi (¬ ((p2 &&& (2 : Int32)) = (0 : Int32))))), .val (.ref b1), .unset, .unset] [(.int (lcmpW (p1.toInt64 - (p0 &&& (1073741823 : Int32)).toInt64) (8 : Int64)))])
      refine Goes.dia (P := (p1.toInt64 - (p0 &&& (1073741823 : Int32)).toInt64) < (8 : Int64)) (mk := fun z => (mkF m 88 #[.val (.int p0), .val (.int p1), .val (.int p2), .val (.int (p0 &&& (1073741823 : Int32))), .val (.int p1), .val (.int (bi (¬ ((p2 &&& (1 : Int32)) = (0 : Int32))))), .val (.int (bi (¬ ((p2 &&& (2 : Int32)) = (0 : Int32))))), .val (.ref b1), .unset, .unset] [(.int z)])) (fun hc80 kk => ?_) (fun hc80 kk => ?_) ?_
      · skip
        refine Goes.go (fun _ => XS.ifNo S.here B.x rfl (B.d at_80) rfl ((if0 _ _).trans (tlt ((lw_lt (p1.toInt64 - (p0 &&& (1073741823 : Int32)).toInt64) (8 : Int64)).mpr hc80)).2.1)) ?_
        show Goes _ _ _ _ T (mkF m 83 #[.val (.int p0), .val (.int p1), .val (.int p2), .val (.int (p0 &&& (1073741823 : Int32))), .val (.int p1), .val (.int (bi (¬ ((p2 &&& (1 : Int32)) = (0 : Int32))))), .val (.int (bi (¬ ((p2 &&& (2 : Int32)) = (0 : Int32))))), .val (.ref b1), .unset, .unset] [])
        refine Goes.go (fun _ => XS.iconst S.here B.x rfl (B.d at_83)) ?_
        show Goes _ _ _ _ T (mkF m 84 #[.val (.int p0), .val (.int p1), .val (.int p2), .val (.int (p0 &&& (1073741823 : Int32))), .val (.int p1), .val (.int (bi (¬ ((p2 &&& (1 : Int32)) = (0 : Int32))))), .val (.int (bi (¬ ((p2 &&& (2 : Int32)) = (0 : Int32))))), .val (.ref b1), .unset, .unset] [(.int (1 : Int32))])
        refine Goes.go (fun _ => XS.goto S.here B.x rfl (pc0 := 84) (pc' := 88) rfl (B.d at_84) (by decide) (by decide)) ?_
        show Goes _ _ _ _ T (mkF m 88 #[.val (.int p0), .val (.int p1), .val (.int p2), .val (.int (p0 &&& (1073741823 : Int32))), .val (.int p1), .val (.int (bi (¬ ((p2 &&& (1 : Int32)) = (0 : Int32))))), .val (.int (bi (¬ ((p2 &&& (2 : Int32)) = (0 : Int32))))), .val (.ref b1), .unset, .unset] [(.int (1 : Int32))])
        exact kk
      · skip
        refine Goes.go (fun _ => XS.ifYes S.here B.x rfl (pc0 := 80) (pc' := 87) rfl (B.d at_80) rfl ((if0 _ _).trans (flt (mt (lw_lt (p1.toInt64 - (p0 &&& (1073741823 : Int32)).toInt64) (8 : Int64)).mp hc80)).2.1) (by decide) (by decide)) ?_
        show Goes _ _ _ _ T (mkF m 87 #[.val (.int p0), .val (.int p1), .val (.int p2), .val (.int (p0 &&& (1073741823 : Int32))), .val (.int p1), .val (.int (bi (¬ ((p2 &&& (1 : Int32)) = (0 : Int32))))), .val (.int (bi (¬ ((p2 &&& (2 : Int32)) = (0 : Int32))))), .val (.ref b1), .unset, .unset] [])
        refine Goes.go (fun _ => XS.iconst S.here B.x rfl (B.d at_87)) ?_
        show Goes _ _ _ _ T (mkF m 88 #[.val (.int p0), .val (.int p1), .val (.int p2), .val (.int (p0 &&& (1073741823 : Int32))), .val (.int p1), .val (.int (bi (¬ ((p2 &&& (1 : Int32)) = (0 : Int32))))), .val (.int (bi (¬ ((p2 &&& (2 : Int32)) = (0 : Int32))))), .val (.ref b1), .unset, .unset] [(.int (0 : Int32))])
        exact kk
      show Goes _ _ _ _ T (mkF m 88 #[.val (.int p0), .val (.int p1), .val (.int p2), .val (.int (p0 &&& (1073741823 : Int32))), .val (.int p1), .val (.int (bi (¬ ((p2 &&& (1 : Int32)) = (0 : Int32))))), .val (.int (bi (¬ ((p2 &&& (2 : Int32)) = (0 : Int32))))), .val (.ref b1), .unset, .unset] [(.int (bi ((p1.toInt64 - (p0 &&& (1073741823 : Int32)).toInt64) < (8 : Int64))))])
      refine Goes.go (fun _ => XS.istore S.here B.x rfl (B.d at_88) rfl (l' := #[.val (.int p0), .val (.int p1), .val (.int p2), .val (.int (p0 &&& (1073741823 : Int32))), .val (.int p1), .val (.int (bi (¬ ((p2 &&& (1 : Int32)) = (0 : Int32))))), .val (.int (bi (¬ ((p2 &&& (2 : Int32)) = (0 : Int32))))), .val (.ref b1), .val (.int (bi ((p1.toInt64 - (p0 &&& (1073741823 : Int32)).toInt64) < (8 : Int64)))), .unset]) rfl) ?_
      show Goes _ _ _ _ T (mkF m 90 #[.val (.int p0), .val (.int p1), .val (.int p2), .val (.int (p0 &&& (1073741823 : Int32))), .val (.int p1), .val (.int (bi (¬ ((p2 &&& (1 : Int32)) = (0 : Int32))))), .val (.int (bi (¬ ((p2 &&& (2 : Int32)) = (0 : Int32))))), .val (.ref b1), .val (.int (bi ((p1.toInt64 - (p0 &&& (1073741823 : Int32)).toInt64) < (8 : Int64)))), .unset] [])
      refine Goes.go (fun _ => XS.aload S.here B.x rfl (B.d at_90) rfl rfl) ?_
      show Goes _ _ _ _ T (mkF m 92 #[.val (.int p0), .val (.int p1), .val (.int p2), .val (.int (p0 &&& (1073741823 : Int32))), .val (.int p1), .val (.int (bi (¬ ((p2 &&& (1 : Int32)) = (0 : Int32))))), .val (.int (bi (¬ ((p2 &&& (2 : Int32)) = (0 : Int32))))), .val (.ref b1), .val (.int (bi ((p1.toInt64 - (p0 &&& (1073741823 : Int32)).toInt64) < (8 : Int64)))), .unset] [(.ref b1)])
      refine Goes.callV (argsL := []) (rest := []) (W := 0) S B (rm_cango l Z aw hw b1 (p0 &&& (1073741823 : Int32)) p1 (bi (¬ ((p2 &&& (1 : Int32)) = (0 : Int32)))) _ n0 F_b1_depth F_b1_deepestWithParts F_b1_holdsNoParts) E_b1 (w24 hw) (w25 hw) (w27 hw) (w26 hw) (w3 hw) (w28 hw) (by decide) (by decide) (by decide) (by decide) (by decide) rfl (lenOf pd_2 rfl) rfl (Nat.le_of_eq rfl) at_92 ?_
      intro v T h S hQ
      obtain ⟨rfl, hh⟩ := hQ
      replace hh := hh.symm
      subst hh
      show Goes _ _ _ _ T (mkF m 95 #[.val (.int p0), .val (.int p1), .val (.int p2), .val (.int (p0 &&& (1073741823 : Int32))), .val (.int p1), .val (.int (bi (¬ ((p2 &&& (1 : Int32)) = (0 : Int32))))), .val (.int (bi (¬ ((p2 &&& (2 : Int32)) = (0 : Int32))))), .val (.ref b1), .val (.int (bi ((p1.toInt64 - (p0 &&& (1073741823 : Int32)).toInt64) < (8 : Int64)))), .unset] [(.int (bi ((bi (¬ ((p2 &&& (1 : Int32)) = (0 : Int32)))) = (0 : Int32) ∧ p1 < ((p0 &&& (1073741823 : Int32)) + (8 : Int32)))))])
      refine Goes.go (fun _ => XS.iload S.here B.x rfl (B.d at_95) rfl) ?_
      show Goes _ _ _ _ T (mkF m 97 #[.val (.int p0), .val (.int p1), .val (.int p2), .val (.int (p0 &&& (1073741823 : Int32))), .val (.int p1), .val (.int (bi (¬ ((p2 &&& (1 : Int32)) = (0 : Int32))))), .val (.int (bi (¬ ((p2 &&& (2 : Int32)) = (0 : Int32))))), .val (.ref b1), .val (.int (bi ((p1.toInt64 - (p0 &&& (1073741823 : Int32)).toInt64) < (8 : Int64)))), .unset] [(.int (bi ((p1.toInt64 - (p0 &&& (1073741823 : Int32)).toInt64) < (8 : Int64)))), (.int (bi ((bi (¬ ((p2 &&& (1 : Int32)) = (0 : Int32)))) = (0 : Int32) ∧ p1 < ((p0 &&& (1073741823 : Int32)) + (8 : Int32)))))])
      refine Goes.go (fun _ => XS.icmpYes S.here B.x rfl (pc0 := 97) (pc' := 102) rfl (B.d at_97) rfl (teq (bi_congr ⟨fun q => (own_lt _ _ (own_mask p0)).mp q.2, fun q => ⟨bi_neg hc67, (own_lt _ _ (own_mask p0)).mpr q⟩⟩ : (bi ((bi (¬ ((p2 &&& (1 : Int32)) = (0 : Int32)))) = (0 : Int32) ∧ p1 < ((p0 &&& (1073741823 : Int32)) + (8 : Int32)))) = (bi ((p1.toInt64 - (p0 &&& (1073741823 : Int32)).toInt64) < (8 : Int64))))).1 (by decide) (by decide)) ?_
      show Goes _ _ _ _ T (mkF m 102 #[.val (.int p0), .val (.int p1), .val (.int p2), .val (.int (p0 &&& (1073741823 : Int32))), .val (.int p1), .val (.int (bi (¬ ((p2 &&& (1 : Int32)) = (0 : Int32))))), .val (.int (bi (¬ ((p2 &&& (2 : Int32)) = (0 : Int32))))), .val (.ref b1), .val (.int (bi ((p1.toInt64 - (p0 &&& (1073741823 : Int32)).toInt64) < (8 : Int64)))), .unset] [])
      refine Goes.go (fun _ => XS.aload S.here B.x rfl (B.d at_102) rfl rfl) ?_
      show Goes _ _ _ _ T (mkF m 104 #[.val (.int p0), .val (.int p1), .val (.int p2), .val (.int (p0 &&& (1073741823 : Int32))), .val (.int p1), .val (.int (bi (¬ ((p2 &&& (1 : Int32)) = (0 : Int32))))), .val (.int (bi (¬ ((p2 &&& (2 : Int32)) = (0 : Int32))))), .val (.ref b1), .val (.int (bi ((p1.toInt64 - (p0 &&& (1073741823 : Int32)).toInt64) < (8 : Int64)))), .unset] [(.ref b1)])
      have zle := S.le
      refine Goes.callV (argsL := []) (rest := []) (W := 0) S B (rm_deeper l Z aw hw b1 (p0 &&& (1073741823 : Int32)) p1 (bi (¬ ((p2 &&& (1 : Int32)) = (0 : Int32)))) (bi (¬ ((p2 &&& (2 : Int32)) = (0 : Int32)))) _ n0 E_b1 F_b1_depth F_b1_deepestWithParts F_b1_holdsNoParts F_b1_pastRepetition bi_or bi_or) E_b1 (w29 hw) (w30 hw) (w32 hw) (w31 hw) (w3 hw) (w33 hw) (by decide) (by decide) (by decide) (by decide) (by decide) rfl (lenOf pd_3 rfl) rfl (Nat.le_of_eq rfl) at_104 ?_
      intro v T h S hQ
      obtain ⟨b4, rfl, zb, Kc, E_b4', F_b4_depth', F_b4_deepestWithParts', F_b4_holdsNoParts', F_b4_pastRepetition'⟩ := hQ
      have ne_b1__b4 : b1 ≠ b4 := Nat.ne_of_lt (Nat.lt_of_lt_of_le E_b1.lt zb)
      have g_b4 : n0 ≤ b4 := Nat.le_trans zle zb
      replace E_b1 := E_b1.keep Kc
      replace F_b1_depth := F_b1_depth.keep Kc nin0
      replace F_b1_deepestWithParts := F_b1_deepestWithParts.keep Kc nin0
      replace F_b1_holdsNoParts := F_b1_holdsNoParts.keep Kc nin0
      replace F_b1_pastRepetition := F_b1_pastRepetition.keep Kc nin0
      have E_b4 := E_b4'
      have F_b4_depth := F_b4_depth'
      have F_b4_deepestWithParts := F_b4_deepestWithParts'
      have F_b4_holdsNoParts := F_b4_holdsNoParts'
      have F_b4_pastRepetition := F_b4_pastRepetition'
      show Goes _ _ _ _ T (mkF m 107 #[.val (.int p0), .val (.int p1), .val (.int p2), .val (.int (p0 &&& (1073741823 : Int32))), .val (.int p1), .val (.int (bi (¬ ((p2 &&& (1 : Int32)) = (0 : Int32))))), .val (.int (bi (¬ ((p2 &&& (2 : Int32)) = (0 : Int32))))), .val (.ref b1), .val (.int (bi ((p1.toInt64 - (p0 &&& (1073741823 : Int32)).toInt64) < (8 : Int64)))), .unset] [(.ref b4)])
      refine Goes.go (fun _ => XS.astore S.here B.x rfl (B.d at_107) rfl rfl (l' := #[.val (.int p0), .val (.int p1), .val (.int p2), .val (.int (p0 &&& (1073741823 : Int32))), .val (.int p1), .val (.int (bi (¬ ((p2 &&& (1 : Int32)) = (0 : Int32))))), .val (.int (bi (¬ ((p2 &&& (2 : Int32)) = (0 : Int32))))), .val (.ref b1), .val (.int (bi ((p1.toInt64 - (p0 &&& (1073741823 : Int32)).toInt64) < (8 : Int64)))), .val (.ref b4)]) rfl) ?_
      show Goes _ _ _ _ T (mkF m 109 #[.val (.int p0), .val (.int p1), .val (.int p2), .val (.int (p0 &&& (1073741823 : Int32))), .val (.int p1), .val (.int (bi (¬ ((p2 &&& (1 : Int32)) = (0 : Int32))))), .val (.int (bi (¬ ((p2 &&& (2 : Int32)) = (0 : Int32))))), .val (.ref b1), .val (.int (bi ((p1.toInt64 - (p0 &&& (1073741823 : Int32)).toInt64) < (8 : Int64)))), .val (.ref b4)] [])
      refine Goes.go (fun _ => XS.aload S.here B.x rfl (B.d at_109) rfl rfl) ?_
      show Goes _ _ _ _ T (mkF m 111 #[.val (.int p0), .val (.int p1), .val (.int p2), .val (.int (p0 &&& (1073741823 : Int32))), .val (.int p1), .val (.int (bi (¬ ((p2 &&& (1 : Int32)) = (0 : Int32))))), .val (.int (bi (¬ ((p2 &&& (2 : Int32)) = (0 : Int32))))), .val (.ref b1), .val (.int (bi ((p1.toInt64 - (p0 &&& (1073741823 : Int32)).toInt64) < (8 : Int64)))), .val (.ref b4)] [(.ref b4)])
      refine Goes.callV (argsL := []) (rest := []) (W := 0) S B (rm_cango l Z aw hw b4 (p0 &&& (1073741823 : Int32)) ((p0 &&& (1073741823 : Int32)) + (8 : Int32)) (bi (¬ ((p2 &&& (1 : Int32)) = (0 : Int32)))) _ n0 F_b4_depth F_b4_deepestWithParts F_b4_holdsNoParts) E_b4 (w24 hw) (w25 hw) (w27 hw) (w26 hw) (w3 hw) (w28 hw) (by decide) (by decide) (by decide) (by decide) (by decide) rfl (lenOf pd_2 rfl) rfl (Nat.le_of_eq rfl) at_111 ?_
      intro v T h S hQ
      obtain ⟨rfl, hh⟩ := hQ
      replace hh := hh.symm
      subst hh
      show Goes _ _ _ _ T (mkF m 114 #[.val (.int p0), .val (.int p1), .val (.int p2), .val (.int (p0 &&& (1073741823 : Int32))), .val (.int p1), .val (.int (bi (¬ ((p2 &&& (1 : Int32)) = (0 : Int32))))), .val (.int (bi (¬ ((p2 &&& (2 : Int32)) = (0 : Int32))))), .val (.ref b1), .val (.int (bi ((p1.toInt64 - (p0 &&& (1073741823 : Int32)).toInt64) < (8 : Int64)))), .val (.ref b4)] [(.int (bi ((bi (¬ ((p2 &&& (1 : Int32)) = (0 : Int32)))) = (0 : Int32) ∧ ((p0 &&& (1073741823 : Int32)) + (8 : Int32)) < ((p0 &&& (1073741823 : Int32)) + (8 : Int32)))))])
      refine Goes.go (fun _ => XS.ifYes S.here B.x rfl (pc0 := 114) (pc' := 119) rfl (B.d at_114) rfl ((if0 _ _).trans (teq (bi_neg (fun q => own_irr _ q.2 : ¬ ((bi (¬ ((p2 &&& (1 : Int32)) = (0 : Int32)))) = (0 : Int32) ∧ ((p0 &&& (1073741823 : Int32)) + (8 : Int32)) < ((p0 &&& (1073741823 : Int32)) + (8 : Int32)))))).1) (by decide) (by decide)) ?_
      show Goes _ _ _ _ T (mkF m 119 #[.val (.int p0), .val (.int p1), .val (.int p2), .val (.int (p0 &&& (1073741823 : Int32))), .val (.int p1), .val (.int (bi (¬ ((p2 &&& (1 : Int32)) = (0 : Int32))))), .val (.int (bi (¬ ((p2 &&& (2 : Int32)) = (0 : Int32))))), .val (.ref b1), .val (.int (bi ((p1.toInt64 - (p0 &&& (1073741823 : Int32)).toInt64) < (8 : Int64)))), .val (.ref b4)] [])
      refine Goes.go (fun _ => XS.aload S.here B.x rfl (B.d at_119) rfl rfl) ?_
      show Goes _ _ _ _ T (mkF m 121 #[.val (.int p0), .val (.int p1), .val (.int p2), .val (.int (p0 &&& (1073741823 : Int32))), .val (.int p1), .val (.int (bi (¬ ((p2 &&& (1 : Int32)) = (0 : Int32))))), .val (.int (bi (¬ ((p2 &&& (2 : Int32)) = (0 : Int32))))), .val (.ref b1), .val (.int (bi ((p1.toInt64 - (p0 &&& (1073741823 : Int32)).toInt64) < (8 : Int64)))), .val (.ref b4)] [(.ref b4)])
      have zle := S.le
      refine Goes.callV (argsL := []) (rest := []) (W := 0) S B (rm_ofpart l Z aw hw b4 (p0 &&& (1073741823 : Int32)) ((p0 &&& (1073741823 : Int32)) + (8 : Int32)) (bi (¬ ((p2 &&& (1 : Int32)) = (0 : Int32)))) (bi (¬ ((p2 &&& (2 : Int32)) = (0 : Int32)))) _ n0 E_b4 F_b4_depth F_b4_deepestWithParts F_b4_holdsNoParts F_b4_pastRepetition) E_b4 (w36 hw) (w37 hw) (w39 hw) (w38 hw) (w3 hw) (w40 hw) (by decide) (by decide) (by decide) (by decide) (by decide) rfl (lenOf pd_3 rfl) rfl (Nat.le_of_eq rfl) at_121 ?_
      intro v T h S hQ
      obtain ⟨b5, rfl, zb, Kc, E_b5', F_b5_depth', F_b5_deepestWithParts', F_b5_holdsNoParts', F_b5_pastRepetition'⟩ := hQ
      have ne_b1__b5 : b1 ≠ b5 := Nat.ne_of_lt (Nat.lt_of_lt_of_le E_b1.lt zb)
      have ne_b4__b5 : b4 ≠ b5 := Nat.ne_of_lt (Nat.lt_of_lt_of_le E_b4.lt zb)
      have g_b5 : n0 ≤ b5 := Nat.le_trans zle zb
      replace E_b1 := E_b1.keep Kc
      replace F_b1_depth := F_b1_depth.keep Kc nin0
      replace F_b1_deepestWithParts := F_b1_deepestWithParts.keep Kc nin0
      replace F_b1_holdsNoParts := F_b1_holdsNoParts.keep Kc nin0
      replace F_b1_pastRepetition := F_b1_pastRepetition.keep Kc nin0
      replace E_b4 := E_b4.keep Kc
      replace F_b4_depth := F_b4_depth.keep Kc nin0
      replace F_b4_deepestWithParts := F_b4_deepestWithParts.keep Kc nin0
      replace F_b4_holdsNoParts := F_b4_holdsNoParts.keep Kc nin0
      replace F_b4_pastRepetition := F_b4_pastRepetition.keep Kc nin0
      have E_b5 := E_b5'
      have F_b5_depth := F_b5_depth'
      have F_b5_deepestWithParts := F_b5_deepestWithParts'
      have F_b5_holdsNoParts := F_b5_holdsNoParts'
      have F_b5_pastRepetition := F_b5_pastRepetition'
      show Goes _ _ _ _ T (mkF m 124 #[.val (.int p0), .val (.int p1), .val (.int p2), .val (.int (p0 &&& (1073741823 : Int32))), .val (.int p1), .val (.int (bi (¬ ((p2 &&& (1 : Int32)) = (0 : Int32))))), .val (.int (bi (¬ ((p2 &&& (2 : Int32)) = (0 : Int32))))), .val (.ref b1), .val (.int (bi ((p1.toInt64 - (p0 &&& (1073741823 : Int32)).toInt64) < (8 : Int64)))), .val (.ref b4)] [(.ref b5)])
      refine Goes.callV (argsL := []) (rest := []) (W := 0) S B (rm_cango l Z aw hw b5 ((p0 &&& (1073741823 : Int32)) + (1 : Int32)) ((p0 &&& (1073741823 : Int32)) + (8 : Int32)) (0 : Int32) _ n0 F_b5_depth F_b5_deepestWithParts F_b5_holdsNoParts) E_b5 (w24 hw) (w25 hw) (w27 hw) (w26 hw) (w3 hw) (w28 hw) (by decide) (by decide) (by decide) (by decide) (by decide) rfl (lenOf pd_2 rfl) rfl (Nat.le_of_eq rfl) at_124 ?_
      intro v T h S hQ
      obtain ⟨rfl, hh⟩ := hQ
      replace hh := hh.symm
      subst hh
      show Goes _ _ _ _ T (mkF m 127 #[.val (.int p0), .val (.int p1), .val (.int p2), .val (.int (p0 &&& (1073741823 : Int32))), .val (.int p1), .val (.int (bi (¬ ((p2 &&& (1 : Int32)) = (0 : Int32))))), .val (.int (bi (¬ ((p2 &&& (2 : Int32)) = (0 : Int32))))), .val (.ref b1), .val (.int (bi ((p1.toInt64 - (p0 &&& (1073741823 : Int32)).toInt64) < (8 : Int64)))), .val (.ref b4)] [(.int (bi ((0 : Int32) = (0 : Int32) ∧ ((p0 &&& (1073741823 : Int32)) + (8 : Int32)) < (((p0 &&& (1073741823 : Int32)) + (1 : Int32)) + (8 : Int32)))))])
      refine Goes.go (fun _ => XS.ifYes S.here B.x rfl (pc0 := 127) (pc' := 132) rfl (B.d at_127) rfl ((if0 _ _).trans (feq (bi_ne (⟨rfl, own_up _ (own_mask p0)⟩ : (0 : Int32) = (0 : Int32) ∧ ((p0 &&& (1073741823 : Int32)) + (8 : Int32)) < (((p0 &&& (1073741823 : Int32)) + (1 : Int32)) + (8 : Int32))))).2) (by decide) (by decide)) ?_
      show Goes _ _ _ _ T (mkF m 132 #[.val (.int p0), .val (.int p1), .val (.int p2), .val (.int (p0 &&& (1073741823 : Int32))), .val (.int p1), .val (.int (bi (¬ ((p2 &&& (1 : Int32)) = (0 : Int32))))), .val (.int (bi (¬ ((p2 &&& (2 : Int32)) = (0 : Int32))))), .val (.ref b1), .val (.int (bi ((p1.toInt64 - (p0 &&& (1073741823 : Int32)).toInt64) < (8 : Int64)))), .val (.ref b4)] [])
      refine Goes.go (fun _ => XS.iconst S.here B.x rfl (B.d at_132)) ?_
      show Goes _ _ _ _ T (mkF m 133 #[.val (.int p0), .val (.int p1), .val (.int p2), .val (.int (p0 &&& (1073741823 : Int32))), .val (.int p1), .val (.int (bi (¬ ((p2 &&& (1 : Int32)) = (0 : Int32))))), .val (.int (bi (¬ ((p2 &&& (2 : Int32)) = (0 : Int32))))), .val (.ref b1), .val (.int (bi ((p1.toInt64 - (p0 &&& (1073741823 : Int32)).toInt64) < (8 : Int64)))), .val (.ref b4)] [(.int (1 : Int32))])
      refine Goes.retN S B (by simp) at_133 (by decide) (by decide) ?_
      exact rfl
  · skip
    refine Goes.go (fun _ => XS.ifNo S.here B.x rfl (B.d at_8) rfl ((if0 _ _).trans (feq hc8).1)) ?_
    show Goes _ _ _ _ T (mkF m 11 #[.val (.int p0), .val (.int p1), .val (.int p2), .val (.int (p0 &&& (1073741823 : Int32))), .unset, .unset, .unset, .unset, .unset, .unset] [])
    refine Goes.go (fun _ => XS.iloadN S.here B.x rfl (B.d at_11) rfl) ?_
    show Goes _ _ _ _ T (mkF m 12 #[.val (.int p0), .val (.int p1), .val (.int p2), .val (.int (p0 &&& (1073741823 : Int32))), .unset, .unset, .unset, .unset, .unset, .unset] [(.int (p0 &&& (1073741823 : Int32)))])
    refine Goes.go (fun _ => XS.iloadN S.here B.x rfl (B.d at_12) rfl) ?_
    show Goes _ _ _ _ T (mkF m 13 #[.val (.int p0), .val (.int p1), .val (.int p2), .val (.int (p0 &&& (1073741823 : Int32))), .unset, .unset, .unset, .unset, .unset, .unset] [(.int p1), (.int (p0 &&& (1073741823 : Int32)))])
    refine Goes.go (fun _ => XS.bipush S.here B.x rfl (B.d at_13)) ?_
    show Goes _ _ _ _ T (mkF m 15 #[.val (.int p0), .val (.int p1), .val (.int p2), .val (.int (p0 &&& (1073741823 : Int32))), .unset, .unset, .unset, .unset, .unset, .unset] [(.int (20 : Int32)), (.int p1), (.int (p0 &&& (1073741823 : Int32)))])
    refine Goes.irem S B at_15 (by decide) ?_
    show Goes _ _ _ _ T (mkF m 16 #[.val (.int p0), .val (.int p1), .val (.int p2), .val (.int (p0 &&& (1073741823 : Int32))), .unset, .unset, .unset, .unset, .unset, .unset] [(.int (p1 % (20 : Int32))), (.int (p0 &&& (1073741823 : Int32)))])
    refine Goes.go (fun _ => XS.iadd S.here B.x rfl (B.d at_16) rfl) ?_
    show Goes _ _ _ _ T (mkF m 17 #[.val (.int p0), .val (.int p1), .val (.int p2), .val (.int (p0 &&& (1073741823 : Int32))), .unset, .unset, .unset, .unset, .unset, .unset] [(.int ((p0 &&& (1073741823 : Int32)) + (p1 % (20 : Int32))))])
    refine Goes.go (fun _ => XS.goto S.here B.x rfl (pc0 := 17) (pc' := 21) rfl (B.d at_17) (by decide) (by decide)) ?_
    show Goes _ _ _ _ T (mkF m 21 #[.val (.int p0), .val (.int p1), .val (.int p2), .val (.int (p0 &&& (1073741823 : Int32))), .unset, .unset, .unset, .unset, .unset, .unset] [(.int ((p0 &&& (1073741823 : Int32)) + (p1 % (20 : Int32))))])
    refine Goes.go (fun _ => XS.istore S.here B.x rfl (B.d at_21) rfl (l' := #[.val (.int p0), .val (.int p1), .val (.int p2), .val (.int (p0 &&& (1073741823 : Int32))), .val (.int ((p0 &&& (1073741823 : Int32)) + (p1 % (20 : Int32)))), .unset, .unset, .unset, .unset, .unset]) rfl) ?_
    show Goes _ _ _ _ T (mkF m 23 #[.val (.int p0), .val (.int p1), .val (.int p2), .val (.int (p0 &&& (1073741823 : Int32))), .val (.int ((p0 &&& (1073741823 : Int32)) + (p1 % (20 : Int32)))), .unset, .unset, .unset, .unset, .unset] [])
    refine Goes.go (fun _ => XS.iloadN S.here B.x rfl (B.d at_23) rfl) ?_
    show Goes _ _ _ _ T (mkF m 24 #[.val (.int p0), .val (.int p1), .val (.int p2), .val (.int (p0 &&& (1073741823 : Int32))), .val (.int ((p0 &&& (1073741823 : Int32)) + (p1 % (20 : Int32)))), .unset, .unset, .unset, .unset, .unset] [(.int p2)])
    refine Goes.go (fun _ => XS.iconst S.here B.x rfl (B.d at_24)) ?_
    show Goes _ _ _ _ T (mkF m 25 #[.val (.int p0), .val (.int p1), .val (.int p2), .val (.int (p0 &&& (1073741823 : Int32))), .val (.int ((p0 &&& (1073741823 : Int32)) + (p1 % (20 : Int32)))), .unset, .unset, .unset, .unset, .unset] [(.int (1 : Int32)), (.int p2)])
    refine Goes.go (fun _ => XS.iand S.here B.x rfl (B.d at_25) rfl) ?_
    show Goes _ _ _ _ T (mkF m 26 #[.val (.int p0), .val (.int p1), .val (.int p2), .val (.int (p0 &&& (1073741823 : Int32))), .val (.int ((p0 &&& (1073741823 : Int32)) + (p1 % (20 : Int32)))), .unset, .unset, .unset, .unset, .unset] [(.int (p2 &&& (1 : Int32)))])
    refine Goes.dia (P := ¬ ((p2 &&& (1 : Int32)) = (0 : Int32))) (mk := fun z => (mkF m 34 #[.val (.int p0), .val (.int p1), .val (.int p2), .val (.int (p0 &&& (1073741823 : Int32))), .val (.int ((p0 &&& (1073741823 : Int32)) + (p1 % (20 : Int32)))), .unset, .unset, .unset, .unset, .unset] [(.int z)])) (fun hc26 kk => ?_) (fun hc26 kk => ?_) ?_
    · skip
      refine Goes.go (fun _ => XS.ifNo S.here B.x rfl (B.d at_26) rfl ((if0 _ _).trans (feq hc26).1)) ?_
      show Goes _ _ _ _ T (mkF m 29 #[.val (.int p0), .val (.int p1), .val (.int p2), .val (.int (p0 &&& (1073741823 : Int32))), .val (.int ((p0 &&& (1073741823 : Int32)) + (p1 % (20 : Int32)))), .unset, .unset, .unset, .unset, .unset] [])
      refine Goes.go (fun _ => XS.iconst S.here B.x rfl (B.d at_29)) ?_
      show Goes _ _ _ _ T (mkF m 30 #[.val (.int p0), .val (.int p1), .val (.int p2), .val (.int (p0 &&& (1073741823 : Int32))), .val (.int ((p0 &&& (1073741823 : Int32)) + (p1 % (20 : Int32)))), .unset, .unset, .unset, .unset, .unset] [(.int (1 : Int32))])
      refine Goes.go (fun _ => XS.goto S.here B.x rfl (pc0 := 30) (pc' := 34) rfl (B.d at_30) (by decide) (by decide)) ?_
      show Goes _ _ _ _ T (mkF m 34 #[.val (.int p0), .val (.int p1), .val (.int p2), .val (.int (p0 &&& (1073741823 : Int32))), .val (.int ((p0 &&& (1073741823 : Int32)) + (p1 % (20 : Int32)))), .unset, .unset, .unset, .unset, .unset] [(.int (1 : Int32))])
      exact kk
    · skip
      refine Goes.go (fun _ => XS.ifYes S.here B.x rfl (pc0 := 26) (pc' := 33) rfl (B.d at_26) rfl ((if0 _ _).trans (teq (Classical.not_not.mp hc26)).1) (by decide) (by decide)) ?_
      show Goes _ _ _ _ T (mkF m 33 #[.val (.int p0), .val (.int p1), .val (.int p2), .val (.int (p0 &&& (1073741823 : Int32))), .val (.int ((p0 &&& (1073741823 : Int32)) + (p1 % (20 : Int32)))), .unset, .unset, .unset, .unset, .unset] [])
      refine Goes.go (fun _ => XS.iconst S.here B.x rfl (B.d at_33)) ?_
      show Goes _ _ _ _ T (mkF m 34 #[.val (.int p0), .val (.int p1), .val (.int p2), .val (.int (p0 &&& (1073741823 : Int32))), .val (.int ((p0 &&& (1073741823 : Int32)) + (p1 % (20 : Int32)))), .unset, .unset, .unset, .unset, .unset] [(.int (0 : Int32))])
      exact kk
    show Goes _ _ _ _ T (mkF m 34 #[.val (.int p0), .val (.int p1), .val (.int p2), .val (.int (p0 &&& (1073741823 : Int32))), .val (.int ((p0 &&& (1073741823 : Int32)) + (p1 % (20 : Int32)))), .unset, .unset, .unset, .unset, .unset] [(.int (bi (¬ ((p2 &&& (1 : Int32)) = (0 : Int32)))))])
    refine Goes.go (fun _ => XS.istore S.here B.x rfl (B.d at_34) rfl (l' := #[.val (.int p0), .val (.int p1), .val (.int p2), .val (.int (p0 &&& (1073741823 : Int32))), .val (.int ((p0 &&& (1073741823 : Int32)) + (p1 % (20 : Int32)))), .val (.int (bi (¬ ((p2 &&& (1 : Int32)) = (0 : Int32))))), .unset, .unset, .unset, .unset]) rfl) ?_
    show Goes _ _ _ _ T (mkF m 36 #[.val (.int p0), .val (.int p1), .val (.int p2), .val (.int (p0 &&& (1073741823 : Int32))), .val (.int ((p0 &&& (1073741823 : Int32)) + (p1 % (20 : Int32)))), .val (.int (bi (¬ ((p2 &&& (1 : Int32)) = (0 : Int32))))), .unset, .unset, .unset, .unset] [])
    refine Goes.go (fun _ => XS.iloadN S.here B.x rfl (B.d at_36) rfl) ?_
    show Goes _ _ _ _ T (mkF m 37 #[.val (.int p0), .val (.int p1), .val (.int p2), .val (.int (p0 &&& (1073741823 : Int32))), .val (.int ((p0 &&& (1073741823 : Int32)) + (p1 % (20 : Int32)))), .val (.int (bi (¬ ((p2 &&& (1 : Int32)) = (0 : Int32))))), .unset, .unset, .unset, .unset] [(.int p2)])
    refine Goes.go (fun _ => XS.iconst S.here B.x rfl (B.d at_37)) ?_
    show Goes _ _ _ _ T (mkF m 38 #[.val (.int p0), .val (.int p1), .val (.int p2), .val (.int (p0 &&& (1073741823 : Int32))), .val (.int ((p0 &&& (1073741823 : Int32)) + (p1 % (20 : Int32)))), .val (.int (bi (¬ ((p2 &&& (1 : Int32)) = (0 : Int32))))), .unset, .unset, .unset, .unset] [(.int (2 : Int32)), (.int p2)])
    refine Goes.go (fun _ => XS.iand S.here B.x rfl (B.d at_38) rfl) ?_
    show Goes _ _ _ _ T (mkF m 39 #[.val (.int p0), .val (.int p1), .val (.int p2), .val (.int (p0 &&& (1073741823 : Int32))), .val (.int ((p0 &&& (1073741823 : Int32)) + (p1 % (20 : Int32)))), .val (.int (bi (¬ ((p2 &&& (1 : Int32)) = (0 : Int32))))), .unset, .unset, .unset, .unset] [(.int (p2 &&& (2 : Int32)))])
    refine Goes.dia (P := ¬ ((p2 &&& (2 : Int32)) = (0 : Int32))) (mk := fun z => (mkF m 47 #[.val (.int p0), .val (.int p1), .val (.int p2), .val (.int (p0 &&& (1073741823 : Int32))), .val (.int ((p0 &&& (1073741823 : Int32)) + (p1 % (20 : Int32)))), .val (.int (bi (¬ ((p2 &&& (1 : Int32)) = (0 : Int32))))), .unset, .unset, .unset, .unset] [(.int z)])) (fun hc39 kk => ?_) (fun hc39 kk => ?_) ?_
    · skip
      refine Goes.go (fun _ => XS.ifNo S.here B.x rfl (B.d at_39) rfl ((if0 _ _).trans (feq hc39).1)) ?_
      show Goes _ _ _ _ T (mkF m 42 #[.val (.int p0), .val (.int p1), .val (.int p2), .val (.int (p0 &&& (1073741823 : Int32))), .val (.int ((p0 &&& (1073741823 : Int32)) + (p1 % (20 : Int32)))), .val (.int (bi (¬ ((p2 &&& (1 : Int32)) = (0 : Int32))))), .unset, .unset, .unset, .unset] [])
      refine Goes.go (fun _ => XS.iconst S.here B.x rfl (B.d at_42)) ?_
      show Goes _ _ _ _ T (mkF m 43 #[.val (.int p0), .val (.int p1), .val (.int p2), .val (.int (p0 &&& (1073741823 : Int32))), .val (.int ((p0 &&& (1073741823 : Int32)) + (p1 % (20 : Int32)))), .val (.int (bi (¬ ((p2 &&& (1 : Int32)) = (0 : Int32))))), .unset, .unset, .unset, .unset] [(.int (1 : Int32))])
      refine Goes.go (fun _ => XS.goto S.here B.x rfl (pc0 := 43) (pc' := 47) rfl (B.d at_43) (by decide) (by decide)) ?_
      show Goes _ _ _ _ T (mkF m 47 #[.val (.int p0), .val (.int p1), .val (.int p2), .val (.int (p0 &&& (1073741823 : Int32))), .val (.int ((p0 &&& (1073741823 : Int32)) + (p1 % (20 : Int32)))), .val (.int (bi (¬ ((p2 &&& (1 : Int32)) = (0 : Int32))))), .unset, .unset, .unset, .unset] [(.int (1 : Int32))])
      exact kk
    · skip
      refine Goes.go (fun _ => XS.ifYes S.here B.x rfl (pc0 := 39) (pc' := 46) rfl (B.d at_39) rfl ((if0 _ _).trans (teq (Classical.not_not.mp hc39)).1) (by decide) (by decide)) ?_
      show Goes _ _ _ _ T (mkF m 46 #[.val (.int p0), .val (.int p1), .val (.int p2), .val (.int (p0 &&& (1073741823 : Int32))), .val (.int ((p0 &&& (1073741823 : Int32)) + (p1 % (20 : Int32)))), .val (.int (bi (¬ ((p2 &&& (1 : Int32)) = (0 : Int32))))), .unset, .unset, .unset, .unset] [])
      refine Goes.go (fun _ => XS.iconst S.here B.x rfl (B.d at_46)) ?_
      show Goes _ _ _ _ T (mkF m 47 #[.val (.int p0), .val (.int p1), .val (.int p2), .val (.int (p0 &&& (1073741823 : Int32))), .val (.int ((p0 &&& (1073741823 : Int32)) + (p1 % (20 : Int32)))), .val (.int (bi (¬ ((p2 &&& (1 : Int32)) = (0 : Int32))))), .unset, .unset, .unset, .unset] [(.int (0 : Int32))])
      exact kk
    show Goes _ _ _ _ T (mkF m 47 #[.val (.int p0), .val (.int p1), .val (.int p2), .val (.int (p0 &&& (1073741823 : Int32))), .val (.int ((p0 &&& (1073741823 : Int32)) + (p1 % (20 : Int32)))), .val (.int (bi (¬ ((p2 &&& (1 : Int32)) = (0 : Int32))))), .unset, .unset, .unset, .unset] [(.int (bi (¬ ((p2 &&& (2 : Int32)) = (0 : Int32)))))])
    refine Goes.go (fun _ => XS.istore S.here B.x rfl (B.d at_47) rfl (l' := #[.val (.int p0), .val (.int p1), .val (.int p2), .val (.int (p0 &&& (1073741823 : Int32))), .val (.int ((p0 &&& (1073741823 : Int32)) + (p1 % (20 : Int32)))), .val (.int (bi (¬ ((p2 &&& (1 : Int32)) = (0 : Int32))))), .val (.int (bi (¬ ((p2 &&& (2 : Int32)) = (0 : Int32))))), .unset, .unset, .unset]) rfl) ?_
    show Goes _ _ _ _ T (mkF m 49 #[.val (.int p0), .val (.int p1), .val (.int p2), .val (.int (p0 &&& (1073741823 : Int32))), .val (.int ((p0 &&& (1073741823 : Int32)) + (p1 % (20 : Int32)))), .val (.int (bi (¬ ((p2 &&& (1 : Int32)) = (0 : Int32))))), .val (.int (bi (¬ ((p2 &&& (2 : Int32)) = (0 : Int32))))), .unset, .unset, .unset] [])
    refine Goes.newO S B (w1 hw) (w2 hw) (w3 hw) at_49 (by decide) (by decide) ?_
    intro T h b6 S X zb g_b6 E_b6 D
    have F_b6_depth : Fld Z h b6 "com/example/arbitrary_objects/arbitraryobjects/engine/Cuts$Standing" "depth" "I" (.int (0 : Int32)) := D (Or.inr (w16 hw)) (ty := .int) (by decide)
    have F_b6_deepestWithParts : Fld Z h b6 "com/example/arbitrary_objects/arbitraryobjects/engine/Cuts$Standing" "deepestWithParts" "I" (.int (0 : Int32)) := D (Or.inr (w18 hw)) (ty := .int) (by decide)
    have F_b6_holdsNoParts : Fld Z h b6 "com/example/arbitrary_objects/arbitraryobjects/engine/Cuts$Standing" "holdsNoParts" "Z" (.int (0 : Int32)) := D (Or.inr (w20 hw)) (ty := .boolean) (by decide)
    have F_b6_pastRepetition : Fld Z h b6 "com/example/arbitrary_objects/arbitraryobjects/engine/Cuts$Standing" "pastRepetition" "Z" (.int (0 : Int32)) := D (Or.inr (w22 hw)) (ty := .boolean) (by decide)
    show Goes _ _ _ _ T (mkF m 52 #[.val (.int p0), .val (.int p1), .val (.int p2), .val (.int (p0 &&& (1073741823 : Int32))), .val (.int ((p0 &&& (1073741823 : Int32)) + (p1 % (20 : Int32)))), .val (.int (bi (¬ ((p2 &&& (1 : Int32)) = (0 : Int32))))), .val (.int (bi (¬ ((p2 &&& (2 : Int32)) = (0 : Int32))))), .unset, .unset, .unset] [(.ref b6)])
    refine Goes.go (fun _ => XS.dup S.here B.x rfl (B.d at_52) rfl rfl) ?_
    show Goes _ _ _ _ T (mkF m 53 #[.val (.int p0), .val (.int p1), .val (.int p2), .val (.int (p0 &&& (1073741823 : Int32))), .val (.int ((p0 &&& (1073741823 : Int32)) + (p1 % (20 : Int32)))), .val (.int (bi (¬ ((p2 &&& (1 : Int32)) = (0 : Int32))))), .val (.int (bi (¬ ((p2 &&& (2 : Int32)) = (0 : Int32))))), .unset, .unset, .unset] [(.ref b6), (.ref b6)])
    refine Goes.go (fun _ => XS.iloadN S.here B.x rfl (B.d at_53) rfl) ?_
    show Goes _ _ _ _ T (mkF m 54 #[.val (.int p0), .val (.int p1), .val (.int p2), .val (.int (p0 &&& (1073741823 : Int32))), .val (.int ((p0 &&& (1073741823 : Int32)) + (p1 % (20 : Int32)))), .val (.int (bi (¬ ((p2 &&& (1 : Int32)) = (0 : Int32))))), .val (.int (bi (¬ ((p2 &&& (2 : Int32)) = (0 : Int32))))), .unset, .unset, .unset] [(.int (p0 &&& (1073741823 : Int32))), (.ref b6), (.ref b6)])
    refine Goes.go (fun _ => XS.iload S.here B.x rfl (B.d at_54) rfl) ?_
    show Goes _ _ _ _ T (mkF m 56 #[.val (.int p0), .val (.int p1), .val (.int p2), .val (.int (p0 &&& (1073741823 : Int32))), .val (.int ((p0 &&& (1073741823 : Int32)) + (p1 % (20 : Int32)))), .val (.int (bi (¬ ((p2 &&& (1 : Int32)) = (0 : Int32))))), .val (.int (bi (¬ ((p2 &&& (2 : Int32)) = (0 : Int32))))), .unset, .unset, .unset] [(.int ((p0 &&& (1073741823 : Int32)) + (p1 % (20 : Int32)))), (.int (p0 &&& (1073741823 : Int32))), (.ref b6), (.ref b6)])
    refine Goes.go (fun _ => XS.iload S.here B.x rfl (B.d at_56) rfl) ?_
    show Goes _ _ _ _ T (mkF m 58 #[.val (.int p0), .val (.int p1), .val (.int p2), .val (.int (p0 &&& (1073741823 : Int32))), .val (.int ((p0 &&& (1073741823 : Int32)) + (p1 % (20 : Int32)))), .val (.int (bi (¬ ((p2 &&& (1 : Int32)) = (0 : Int32))))), .val (.int (bi (¬ ((p2 &&& (2 : Int32)) = (0 : Int32))))), .unset, .unset, .unset] [(.int (bi (¬ ((p2 &&& (1 : Int32)) = (0 : Int32))))), (.int ((p0 &&& (1073741823 : Int32)) + (p1 % (20 : Int32)))), (.int (p0 &&& (1073741823 : Int32))), (.ref b6), (.ref b6)])
    refine Goes.go (fun _ => XS.iload S.here B.x rfl (B.d at_58) rfl) ?_
    show Goes _ _ _ _ T (mkF m 60 #[.val (.int p0), .val (.int p1), .val (.int p2), .val (.int (p0 &&& (1073741823 : Int32))), .val (.int ((p0 &&& (1073741823 : Int32)) + (p1 % (20 : Int32)))), .val (.int (bi (¬ ((p2 &&& (1 : Int32)) = (0 : Int32))))), .val (.int (bi (¬ ((p2 &&& (2 : Int32)) = (0 : Int32))))), .unset, .unset, .unset] [(.int (bi (¬ ((p2 &&& (2 : Int32)) = (0 : Int32))))), (.int (bi (¬ ((p2 &&& (1 : Int32)) = (0 : Int32))))), (.int ((p0 &&& (1073741823 : Int32)) + (p1 % (20 : Int32)))), (.int (p0 &&& (1073741823 : Int32))), (.ref b6), (.ref b6)])
    refine Goes.callI (argsL := [(.int (p0 &&& (1073741823 : Int32))), (.int ((p0 &&& (1073741823 : Int32)) + (p1 % (20 : Int32)))), (.int (bi (¬ ((p2 &&& (1 : Int32)) = (0 : Int32))))), (.int (bi (¬ ((p2 &&& (2 : Int32)) = (0 : Int32)))))]) (rest := [(.ref b6)]) (W := 1) S B (rmI l Z aw hw b6 (p0 &&& (1073741823 : Int32)) ((p0 &&& (1073741823 : Int32)) + (p1 % (20 : Int32))) (bi (¬ ((p2 &&& (1 : Int32)) = (0 : Int32)))) (bi (¬ ((p2 &&& (2 : Int32)) = (0 : Int32)))) _ n0 E_b6 F_b6_depth F_b6_deepestWithParts F_b6_holdsNoParts F_b6_pastRepetition g_b6 bi_or bi_or) (w4 hw) (w5 hw) (w3 hw) (w6 hw) (by decide) rfl (by decide) (by decide) (by decide) (by decide) rfl (lenOf pd_1 rfl) rfl (Nat.le_of_eq rfl) at_60 ?_
    intro v T h S hQ
    obtain ⟨rfl, Kc, E_b6', F_b6_depth', F_b6_deepestWithParts', F_b6_holdsNoParts', F_b6_pastRepetition'⟩ := hQ
    replace E_b6 := E_b6'
    replace F_b6_depth := F_b6_depth'
    replace F_b6_deepestWithParts := F_b6_deepestWithParts'
    replace F_b6_holdsNoParts := F_b6_holdsNoParts'
    replace F_b6_pastRepetition := F_b6_pastRepetition'
    show Goes _ _ _ _ T (mkF m 63 #[.val (.int p0), .val (.int p1), .val (.int p2), .val (.int (p0 &&& (1073741823 : Int32))), .val (.int ((p0 &&& (1073741823 : Int32)) + (p1 % (20 : Int32)))), .val (.int (bi (¬ ((p2 &&& (1 : Int32)) = (0 : Int32))))), .val (.int (bi (¬ ((p2 &&& (2 : Int32)) = (0 : Int32))))), .unset, .unset, .unset] [(.ref b6)])
    refine Goes.go (fun _ => XS.astore S.here B.x rfl (B.d at_63) rfl rfl (l' := #[.val (.int p0), .val (.int p1), .val (.int p2), .val (.int (p0 &&& (1073741823 : Int32))), .val (.int ((p0 &&& (1073741823 : Int32)) + (p1 % (20 : Int32)))), .val (.int (bi (¬ ((p2 &&& (1 : Int32)) = (0 : Int32))))), .val (.int (bi (¬ ((p2 &&& (2 : Int32)) = (0 : Int32))))), .val (.ref b6), .unset, .unset]) rfl) ?_
    show Goes _ _ _ _ T (mkF m 65 #[.val (.int p0), .val (.int p1), .val (.int p2), .val (.int (p0 &&& (1073741823 : Int32))), .val (.int ((p0 &&& (1073741823 : Int32)) + (p1 % (20 : Int32)))), .val (.int (bi (¬ ((p2 &&& (1 : Int32)) = (0 : Int32))))), .val (.int (bi (¬ ((p2 &&& (2 : Int32)) = (0 : Int32))))), .val (.ref b6), .unset, .unset] [])
    refine Goes.go (fun _ => XS.iload S.here B.x rfl (B.d at_65) rfl) ?_
    show Goes _ _ _ _ T (mkF m 67 #[.val (.int p0), .val (.int p1), .val (.int p2), .val (.int (p0 &&& (1073741823 : Int32))), .val (.int ((p0 &&& (1073741823 : Int32)) + (p1 % (20 : Int32)))), .val (.int (bi (¬ ((p2 &&& (1 : Int32)) = (0 : Int32))))), .val (.int (bi (¬ ((p2 &&& (2 : Int32)) = (0 : Int32))))), .val (.ref b6), .unset, .unset] [(.int (bi (¬ ((p2 &&& (1 : Int32)) = (0 : Int32)))))])
    by_cases hc67 : ¬ ((p2 &&& (1 : Int32)) = (0 : Int32))
    · skip
      refine Goes.go (fun _ => XS.ifYes S.here B.x rfl (pc0 := 67) (pc' := 87) rfl (B.d at_67) rfl ((if0 _ _).trans (feq (bi_ne hc67)).2) (by decide) (by decide)) ?_
      show Goes _ _ _ _ T (mkF m 87 #[.val (.int p0), .val (.int p1), .val (.int p2), .val (.int (p0 &&& (1073741823 : Int32))), .val (.int ((p0 &&& (1073741823 : Int32)) + (p1 % (20 : Int32)))), .val (.int (bi (¬ ((p2 &&& (1 : Int32)) = (0 : Int32))))), .val (.int (bi (¬ ((p2 &&& (2 : Int32)) = (0 : Int32))))), .val (.ref b6), .unset, .unset] [])
      refine Goes.go (fun _ => XS.iconst S.here B.x rfl (B.d at_87)) ?_
      show Goes _ _ _ _ T (mkF m 88 #[.val (.int p0), .val (.int p1), .val (.int p2), .val (.int (p0 &&& (1073741823 : Int32))), .val (.int ((p0 &&& (1073741823 : Int32)) + (p1 % (20 : Int32)))), .val (.int (bi (¬ ((p2 &&& (1 : Int32)) = (0 : Int32))))), .val (.int (bi (¬ ((p2 &&& (2 : Int32)) = (0 : Int32))))), .val (.ref b6), .unset, .unset] [(.int (0 : Int32))])
      refine Goes.go (fun _ => XS.istore S.here B.x rfl (B.d at_88) rfl (l' := #[.val (.int p0), .val (.int p1), .val (.int p2), .val (.int (p0 &&& (1073741823 : Int32))), .val (.int ((p0 &&& (1073741823 : Int32)) + (p1 % (20 : Int32)))), .val (.int (bi (¬ ((p2 &&& (1 : Int32)) = (0 : Int32))))), .val (.int (bi (¬ ((p2 &&& (2 : Int32)) = (0 : Int32))))), .val (.ref b6), .val (.int (0 : Int32)), .unset]) rfl) ?_
      show Goes _ _ _ _ T (mkF m 90 #[.val (.int p0), .val (.int p1), .val (.int p2), .val (.int (p0 &&& (1073741823 : Int32))), .val (.int ((p0 &&& (1073741823 : Int32)) + (p1 % (20 : Int32)))), .val (.int (bi (¬ ((p2 &&& (1 : Int32)) = (0 : Int32))))), .val (.int (bi (¬ ((p2 &&& (2 : Int32)) = (0 : Int32))))), .val (.ref b6), .val (.int (0 : Int32)), .unset] [])
      refine Goes.go (fun _ => XS.aload S.here B.x rfl (B.d at_90) rfl rfl) ?_
      show Goes _ _ _ _ T (mkF m 92 #[.val (.int p0), .val (.int p1), .val (.int p2), .val (.int (p0 &&& (1073741823 : Int32))), .val (.int ((p0 &&& (1073741823 : Int32)) + (p1 % (20 : Int32)))), .val (.int (bi (¬ ((p2 &&& (1 : Int32)) = (0 : Int32))))), .val (.int (bi (¬ ((p2 &&& (2 : Int32)) = (0 : Int32))))), .val (.ref b6), .val (.int (0 : Int32)), .unset] [(.ref b6)])
      refine Goes.callV (argsL := []) (rest := []) (W := 0) S B (rm_cango l Z aw hw b6 (p0 &&& (1073741823 : Int32)) ((p0 &&& (1073741823 : Int32)) + (p1 % (20 : Int32))) (bi (¬ ((p2 &&& (1 : Int32)) = (0 : Int32)))) _ n0 F_b6_depth F_b6_deepestWithParts F_b6_holdsNoParts) E_b6 (w24 hw) (w25 hw) (w27 hw) (w26 hw) (w3 hw) (w28 hw) (by decide) (by decide) (by decide) (by decide) (by decide) rfl (lenOf pd_2 rfl) rfl (Nat.le_of_eq rfl) at_92 ?_
      intro v T h S hQ
      obtain ⟨rfl, hh⟩ := hQ
      replace hh := hh.symm
      subst hh
      show Goes _ _ _ _ T (mkF m 95 #[.val (.int p0), .val (.int p1), .val (.int p2), .val (.int (p0 &&& (1073741823 : Int32))), .val (.int ((p0 &&& (1073741823 : Int32)) + (p1 % (20 : Int32)))), .val (.int (bi (¬ ((p2 &&& (1 : Int32)) = (0 : Int32))))), .val (.int (bi (¬ ((p2 &&& (2 : Int32)) = (0 : Int32))))), .val (.ref b6), .val (.int (0 : Int32)), .unset] [(.int (bi ((bi (¬ ((p2 &&& (1 : Int32)) = (0 : Int32)))) = (0 : Int32) ∧ ((p0 &&& (1073741823 : Int32)) + (p1 % (20 : Int32))) < ((p0 &&& (1073741823 : Int32)) + (8 : Int32)))))])
      refine Goes.go (fun _ => XS.iload S.here B.x rfl (B.d at_95) rfl) ?_
      show Goes _ _ _ _ T (mkF m 97 #[.val (.int p0), .val (.int p1), .val (.int p2), .val (.int (p0 &&& (1073741823 : Int32))), .val (.int ((p0 &&& (1073741823 : Int32)) + (p1 % (20 : Int32)))), .val (.int (bi (¬ ((p2 &&& (1 : Int32)) = (0 : Int32))))), .val (.int (bi (¬ ((p2 &&& (2 : Int32)) = (0 : Int32))))), .val (.ref b6), .val (.int (0 : Int32)), .unset] [(.int (0 : Int32)), (.int (bi ((bi (¬ ((p2 &&& (1 : Int32)) = (0 : Int32)))) = (0 : Int32) ∧ ((p0 &&& (1073741823 : Int32)) + (p1 % (20 : Int32))) < ((p0 &&& (1073741823 : Int32)) + (8 : Int32)))))])
      refine Goes.go (fun _ => XS.icmpYes S.here B.x rfl (pc0 := 97) (pc' := 102) rfl (B.d at_97) rfl (teq (bi_neg (fun q => bi_ne hc67 q.1) : (bi ((bi (¬ ((p2 &&& (1 : Int32)) = (0 : Int32)))) = (0 : Int32) ∧ ((p0 &&& (1073741823 : Int32)) + (p1 % (20 : Int32))) < ((p0 &&& (1073741823 : Int32)) + (8 : Int32)))) = (0 : Int32))).1 (by decide) (by decide)) ?_
      show Goes _ _ _ _ T (mkF m 102 #[.val (.int p0), .val (.int p1), .val (.int p2), .val (.int (p0 &&& (1073741823 : Int32))), .val (.int ((p0 &&& (1073741823 : Int32)) + (p1 % (20 : Int32)))), .val (.int (bi (¬ ((p2 &&& (1 : Int32)) = (0 : Int32))))), .val (.int (bi (¬ ((p2 &&& (2 : Int32)) = (0 : Int32))))), .val (.ref b6), .val (.int (0 : Int32)), .unset] [])
      refine Goes.go (fun _ => XS.aload S.here B.x rfl (B.d at_102) rfl rfl) ?_
      show Goes _ _ _ _ T (mkF m 104 #[.val (.int p0), .val (.int p1), .val (.int p2), .val (.int (p0 &&& (1073741823 : Int32))), .val (.int ((p0 &&& (1073741823 : Int32)) + (p1 % (20 : Int32)))), .val (.int (bi (¬ ((p2 &&& (1 : Int32)) = (0 : Int32))))), .val (.int (bi (¬ ((p2 &&& (2 : Int32)) = (0 : Int32))))), .val (.ref b6), .val (.int (0 : Int32)), .unset] [(.ref b6)])
      have zle := S.le
      refine Goes.callV (argsL := []) (rest := []) (W := 0) S B (rm_deeper l Z aw hw b6 (p0 &&& (1073741823 : Int32)) ((p0 &&& (1073741823 : Int32)) + (p1 % (20 : Int32))) (bi (¬ ((p2 &&& (1 : Int32)) = (0 : Int32)))) (bi (¬ ((p2 &&& (2 : Int32)) = (0 : Int32)))) _ n0 E_b6 F_b6_depth F_b6_deepestWithParts F_b6_holdsNoParts F_b6_pastRepetition bi_or bi_or) E_b6 (w29 hw) (w30 hw) (w32 hw) (w31 hw) (w3 hw) (w33 hw) (by decide) (by decide) (by decide) (by decide) (by decide) rfl (lenOf pd_3 rfl) rfl (Nat.le_of_eq rfl) at_104 ?_
      intro v T h S hQ
      obtain ⟨b7, rfl, zb, Kc, E_b7', F_b7_depth', F_b7_deepestWithParts', F_b7_holdsNoParts', F_b7_pastRepetition'⟩ := hQ
      have ne_b6__b7 : b6 ≠ b7 := Nat.ne_of_lt (Nat.lt_of_lt_of_le E_b6.lt zb)
      have g_b7 : n0 ≤ b7 := Nat.le_trans zle zb
      replace E_b6 := E_b6.keep Kc
      replace F_b6_depth := F_b6_depth.keep Kc nin0
      replace F_b6_deepestWithParts := F_b6_deepestWithParts.keep Kc nin0
      replace F_b6_holdsNoParts := F_b6_holdsNoParts.keep Kc nin0
      replace F_b6_pastRepetition := F_b6_pastRepetition.keep Kc nin0
      have E_b7 := E_b7'
      have F_b7_depth := F_b7_depth'
      have F_b7_deepestWithParts := F_b7_deepestWithParts'
      have F_b7_holdsNoParts := F_b7_holdsNoParts'
      have F_b7_pastRepetition := F_b7_pastRepetition'
      show Goes _ _ _ _ T (mkF m 107 #[.val (.int p0), .val (.int p1), .val (.int p2), .val (.int (p0 &&& (1073741823 : Int32))), .val (.int ((p0 &&& (1073741823 : Int32)) + (p1 % (20 : Int32)))), .val (.int (bi (¬ ((p2 &&& (1 : Int32)) = (0 : Int32))))), .val (.int (bi (¬ ((p2 &&& (2 : Int32)) = (0 : Int32))))), .val (.ref b6), .val (.int (0 : Int32)), .unset] [(.ref b7)])
      refine Goes.go (fun _ => XS.astore S.here B.x rfl (B.d at_107) rfl rfl (l' := #[.val (.int p0), .val (.int p1), .val (.int p2), .val (.int (p0 &&& (1073741823 : Int32))), .val (.int ((p0 &&& (1073741823 : Int32)) + (p1 % (20 : Int32)))), .val (.int (bi (¬ ((p2 &&& (1 : Int32)) = (0 : Int32))))), .val (.int (bi (¬ ((p2 &&& (2 : Int32)) = (0 : Int32))))), .val (.ref b6), .val (.int (0 : Int32)), .val (.ref b7)]) rfl) ?_
      show Goes _ _ _ _ T (mkF m 109 #[.val (.int p0), .val (.int p1), .val (.int p2), .val (.int (p0 &&& (1073741823 : Int32))), .val (.int ((p0 &&& (1073741823 : Int32)) + (p1 % (20 : Int32)))), .val (.int (bi (¬ ((p2 &&& (1 : Int32)) = (0 : Int32))))), .val (.int (bi (¬ ((p2 &&& (2 : Int32)) = (0 : Int32))))), .val (.ref b6), .val (.int (0 : Int32)), .val (.ref b7)] [])
      refine Goes.go (fun _ => XS.aload S.here B.x rfl (B.d at_109) rfl rfl) ?_
      show Goes _ _ _ _ T (mkF m 111 #[.val (.int p0), .val (.int p1), .val (.int p2), .val (.int (p0 &&& (1073741823 : Int32))), .val (.int ((p0 &&& (1073741823 : Int32)) + (p1 % (20 : Int32)))), .val (.int (bi (¬ ((p2 &&& (1 : Int32)) = (0 : Int32))))), .val (.int (bi (¬ ((p2 &&& (2 : Int32)) = (0 : Int32))))), .val (.ref b6), .val (.int (0 : Int32)), .val (.ref b7)] [(.ref b7)])
      refine Goes.callV (argsL := []) (rest := []) (W := 0) S B (rm_cango l Z aw hw b7 (p0 &&& (1073741823 : Int32)) ((p0 &&& (1073741823 : Int32)) + (8 : Int32)) (bi (¬ ((p2 &&& (1 : Int32)) = (0 : Int32)))) _ n0 F_b7_depth F_b7_deepestWithParts F_b7_holdsNoParts) E_b7 (w24 hw) (w25 hw) (w27 hw) (w26 hw) (w3 hw) (w28 hw) (by decide) (by decide) (by decide) (by decide) (by decide) rfl (lenOf pd_2 rfl) rfl (Nat.le_of_eq rfl) at_111 ?_
      intro v T h S hQ
      obtain ⟨rfl, hh⟩ := hQ
      replace hh := hh.symm
      subst hh
      show Goes _ _ _ _ T (mkF m 114 #[.val (.int p0), .val (.int p1), .val (.int p2), .val (.int (p0 &&& (1073741823 : Int32))), .val (.int ((p0 &&& (1073741823 : Int32)) + (p1 % (20 : Int32)))), .val (.int (bi (¬ ((p2 &&& (1 : Int32)) = (0 : Int32))))), .val (.int (bi (¬ ((p2 &&& (2 : Int32)) = (0 : Int32))))), .val (.ref b6), .val (.int (0 : Int32)), .val (.ref b7)] [(.int (bi ((bi (¬ ((p2 &&& (1 : Int32)) = (0 : Int32)))) = (0 : Int32) ∧ ((p0 &&& (1073741823 : Int32)) + (8 : Int32)) < ((p0 &&& (1073741823 : Int32)) + (8 : Int32)))))])
      refine Goes.go (fun _ => XS.ifYes S.here B.x rfl (pc0 := 114) (pc' := 119) rfl (B.d at_114) rfl ((if0 _ _).trans (teq (bi_neg (fun q => own_irr _ q.2 : ¬ ((bi (¬ ((p2 &&& (1 : Int32)) = (0 : Int32)))) = (0 : Int32) ∧ ((p0 &&& (1073741823 : Int32)) + (8 : Int32)) < ((p0 &&& (1073741823 : Int32)) + (8 : Int32)))))).1) (by decide) (by decide)) ?_
      show Goes _ _ _ _ T (mkF m 119 #[.val (.int p0), .val (.int p1), .val (.int p2), .val (.int (p0 &&& (1073741823 : Int32))), .val (.int ((p0 &&& (1073741823 : Int32)) + (p1 % (20 : Int32)))), .val (.int (bi (¬ ((p2 &&& (1 : Int32)) = (0 : Int32))))), .val (.int (bi (¬ ((p2 &&& (2 : Int32)) = (0 : Int32))))), .val (.ref b6), .val (.int (0 : Int32)), .val (.ref b7)] [])
      refine Goes.go (fun _ => XS.aload S.here B.x rfl (B.d at_119) rfl rfl) ?_
      show Goes _ _ _ _ T (mkF m 121 #[.val (.int p0), .val (.int p1), .val (.int p2), .val (.int (p0 &&& (1073741823 : Int32))), .val (.int ((p0 &&& (1073741823 : Int32)) + (p1 % (20 : Int32)))), .val (.int (bi (¬ ((p2 &&& (1 : Int32)) = (0 : Int32))))), .val (.int (bi (¬ ((p2 &&& (2 : Int32)) = (0 : Int32))))), .val (.ref b6), .val (.int (0 : Int32)), .val (.ref b7)] [(.ref b7)])
      have zle := S.le
      refine Goes.callV (argsL := []) (rest := []) (W := 0) S B (rm_ofpart l Z aw hw b7 (p0 &&& (1073741823 : Int32)) ((p0 &&& (1073741823 : Int32)) + (8 : Int32)) (bi (¬ ((p2 &&& (1 : Int32)) = (0 : Int32)))) (bi (¬ ((p2 &&& (2 : Int32)) = (0 : Int32)))) _ n0 E_b7 F_b7_depth F_b7_deepestWithParts F_b7_holdsNoParts F_b7_pastRepetition) E_b7 (w36 hw) (w37 hw) (w39 hw) (w38 hw) (w3 hw) (w40 hw) (by decide) (by decide) (by decide) (by decide) (by decide) rfl (lenOf pd_3 rfl) rfl (Nat.le_of_eq rfl) at_121 ?_
      intro v T h S hQ
      obtain ⟨b8, rfl, zb, Kc, E_b8', F_b8_depth', F_b8_deepestWithParts', F_b8_holdsNoParts', F_b8_pastRepetition'⟩ := hQ
      have ne_b6__b8 : b6 ≠ b8 := Nat.ne_of_lt (Nat.lt_of_lt_of_le E_b6.lt zb)
      have ne_b7__b8 : b7 ≠ b8 := Nat.ne_of_lt (Nat.lt_of_lt_of_le E_b7.lt zb)
      have g_b8 : n0 ≤ b8 := Nat.le_trans zle zb
      replace E_b6 := E_b6.keep Kc
      replace F_b6_depth := F_b6_depth.keep Kc nin0
      replace F_b6_deepestWithParts := F_b6_deepestWithParts.keep Kc nin0
      replace F_b6_holdsNoParts := F_b6_holdsNoParts.keep Kc nin0
      replace F_b6_pastRepetition := F_b6_pastRepetition.keep Kc nin0
      replace E_b7 := E_b7.keep Kc
      replace F_b7_depth := F_b7_depth.keep Kc nin0
      replace F_b7_deepestWithParts := F_b7_deepestWithParts.keep Kc nin0
      replace F_b7_holdsNoParts := F_b7_holdsNoParts.keep Kc nin0
      replace F_b7_pastRepetition := F_b7_pastRepetition.keep Kc nin0
      have E_b8 := E_b8'
      have F_b8_depth := F_b8_depth'
      have F_b8_deepestWithParts := F_b8_deepestWithParts'
      have F_b8_holdsNoParts := F_b8_holdsNoParts'
      have F_b8_pastRepetition := F_b8_pastRepetition'
      show Goes _ _ _ _ T (mkF m 124 #[.val (.int p0), .val (.int p1), .val (.int p2), .val (.int (p0 &&& (1073741823 : Int32))), .val (.int ((p0 &&& (1073741823 : Int32)) + (p1 % (20 : Int32)))), .val (.int (bi (¬ ((p2 &&& (1 : Int32)) = (0 : Int32))))), .val (.int (bi (¬ ((p2 &&& (2 : Int32)) = (0 : Int32))))), .val (.ref b6), .val (.int (0 : Int32)), .val (.ref b7)] [(.ref b8)])
      refine Goes.callV (argsL := []) (rest := []) (W := 0) S B (rm_cango l Z aw hw b8 ((p0 &&& (1073741823 : Int32)) + (1 : Int32)) ((p0 &&& (1073741823 : Int32)) + (8 : Int32)) (0 : Int32) _ n0 F_b8_depth F_b8_deepestWithParts F_b8_holdsNoParts) E_b8 (w24 hw) (w25 hw) (w27 hw) (w26 hw) (w3 hw) (w28 hw) (by decide) (by decide) (by decide) (by decide) (by decide) rfl (lenOf pd_2 rfl) rfl (Nat.le_of_eq rfl) at_124 ?_
      intro v T h S hQ
      obtain ⟨rfl, hh⟩ := hQ
      replace hh := hh.symm
      subst hh
      show Goes _ _ _ _ T (mkF m 127 #[.val (.int p0), .val (.int p1), .val (.int p2), .val (.int (p0 &&& (1073741823 : Int32))), .val (.int ((p0 &&& (1073741823 : Int32)) + (p1 % (20 : Int32)))), .val (.int (bi (¬ ((p2 &&& (1 : Int32)) = (0 : Int32))))), .val (.int (bi (¬ ((p2 &&& (2 : Int32)) = (0 : Int32))))), .val (.ref b6), .val (.int (0 : Int32)), .val (.ref b7)] [(.int (bi ((0 : Int32) = (0 : Int32) ∧ ((p0 &&& (1073741823 : Int32)) + (8 : Int32)) < (((p0 &&& (1073741823 : Int32)) + (1 : Int32)) + (8 : Int32)))))])
      refine Goes.go (fun _ => XS.ifYes S.here B.x rfl (pc0 := 127) (pc' := 132) rfl (B.d at_127) rfl ((if0 _ _).trans (feq (bi_ne (⟨rfl, own_up _ (own_mask p0)⟩ : (0 : Int32) = (0 : Int32) ∧ ((p0 &&& (1073741823 : Int32)) + (8 : Int32)) < (((p0 &&& (1073741823 : Int32)) + (1 : Int32)) + (8 : Int32))))).2) (by decide) (by decide)) ?_
      show Goes _ _ _ _ T (mkF m 132 #[.val (.int p0), .val (.int p1), .val (.int p2), .val (.int (p0 &&& (1073741823 : Int32))), .val (.int ((p0 &&& (1073741823 : Int32)) + (p1 % (20 : Int32)))), .val (.int (bi (¬ ((p2 &&& (1 : Int32)) = (0 : Int32))))), .val (.int (bi (¬ ((p2 &&& (2 : Int32)) = (0 : Int32))))), .val (.ref b6), .val (.int (0 : Int32)), .val (.ref b7)] [])
      refine Goes.go (fun _ => XS.iconst S.here B.x rfl (B.d at_132)) ?_
      show Goes _ _ _ _ T (mkF m 133 #[.val (.int p0), .val (.int p1), .val (.int p2), .val (.int (p0 &&& (1073741823 : Int32))), .val (.int ((p0 &&& (1073741823 : Int32)) + (p1 % (20 : Int32)))), .val (.int (bi (¬ ((p2 &&& (1 : Int32)) = (0 : Int32))))), .val (.int (bi (¬ ((p2 &&& (2 : Int32)) = (0 : Int32))))), .val (.ref b6), .val (.int (0 : Int32)), .val (.ref b7)] [(.int (1 : Int32))])
      refine Goes.retN S B (by simp) at_133 (by decide) (by decide) ?_
      exact rfl
    · skip
      refine Goes.go (fun _ => XS.ifNo S.here B.x rfl (B.d at_67) rfl ((if0 _ _).trans (teq (bi_neg hc67)).2)) ?_
      show Goes _ _ _ _ T (mkF m 70 #[.val (.int p0), .val (.int p1), .val (.int p2), .val (.int (p0 &&& (1073741823 : Int32))), .val (.int ((p0 &&& (1073741823 : Int32)) + (p1 % (20 : Int32)))), .val (.int (bi (¬ ((p2 &&& (1 : Int32)) = (0 : Int32))))), .val (.int (bi (¬ ((p2 &&& (2 : Int32)) = (0 : Int32))))), .val (.ref b6), .unset, .unset] [])
      refine Goes.go (fun _ => XS.iload S.here B.x rfl (B.d at_70) rfl) ?_
      show Goes _ _ _ _ T (mkF m 72 #[.val (.int p0), .val (.int p1), .val (.int p2), .val (.int (p0 &&& (1073741823 : Int32))), .val (.int ((p0 &&& (1073741823 : Int32)) + (p1 % (20 : Int32)))), .val (.int (bi (¬ ((p2 &&& (1 : Int32)) = (0 : Int32))))), .val (.int (bi (¬ ((p2 &&& (2 : Int32)) = (0 : Int32))))), .val (.ref b6), .unset, .unset] [(.int ((p0 &&& (1073741823 : Int32)) + (p1 % (20 : Int32))))])
      refine Goes.go (fun _ => XS.i2l S.here B.x rfl (B.d at_72) rfl) ?_
      show Goes _ _ _ _ T (mkF m 73 #[.val (.int p0), .val (.int p1), .val (.int p2), .val (.int (p0 &&& (1073741823 : Int32))), .val (.int ((p0 &&& (1073741823 : Int32)) + (p1 % (20 : Int32)))), .val (.int (bi (¬ ((p2 &&& (1 : Int32)) = (0 : Int32))))), .val (.int (bi (¬ ((p2 &&& (2 : Int32)) = (0 : Int32))))), .val (.ref b6), .unset, .unset] [(.long ((p0 &&& (1073741823 : Int32)) + (p1 % (20 : Int32))).toInt64)])
      refine Goes.go (fun _ => XS.iloadN S.here B.x rfl (B.d at_73) rfl) ?_
      show Goes _ _ _ _ T (mkF m 74 #[.val (.int p0), .val (.int p1), .val (.int p2), .val (.int (p0 &&& (1073741823 : Int32))), .val (.int ((p0 &&& (1073741823 : Int32)) + (p1 % (20 : Int32)))), .val (.int (bi (¬ ((p2 &&& (1 : Int32)) = (0 : Int32))))), .val (.int (bi (¬ ((p2 &&& (2 : Int32)) = (0 : Int32))))), .val (.ref b6), .unset, .unset] [(.int (p0 &&& (1073741823 : Int32))), (.long ((p0 &&& (1073741823 : Int32)) + (p1 % (20 : Int32))).toInt64)])
      refine Goes.go (fun _ => XS.i2l S.here B.x rfl (B.d at_74) rfl) ?_
      show Goes _ _ _ _ T (mkF m 75 #[.val (.int p0), .val (.int p1), .val (.int p2), .val (.int (p0 &&& (1073741823 : Int32))), .val (.int ((p0 &&& (1073741823 : Int32)) + (p1 % (20 : Int32)))), .val (.int (bi (¬ ((p2 &&& (1 : Int32)) = (0 : Int32))))), .val (.int (bi (¬ ((p2 &&& (2 : Int32)) = (0 : Int32))))), .val (.ref b6), .unset, .unset] [(.long (p0 &&& (1073741823 : Int32)).toInt64), (.long ((p0 &&& (1073741823 : Int32)) + (p1 % (20 : Int32))).toInt64)])
      refine Goes.go (fun _ => XS.lsub S.here B.x rfl (B.d at_75) rfl) ?_
      show Goes _ _ _ _ T (mkF m 76 #[.val (.int p0), .val (.int p1), .val (.int p2), .val (.int (p0 &&& (1073741823 : Int32))), .val (.int ((p0 &&& (1073741823 : Int32)) + (p1 % (20 : Int32)))), .val (.int (bi (¬ ((p2 &&& (1 : Int32)) = (0 : Int32))))), .val (.int (bi (¬ ((p2 &&& (2 : Int32)) = (0 : Int32))))), .val (.ref b6), .unset, .unset] [(.long (((p0 &&& (1073741823 : Int32)) + (p1 % (20 : Int32))).toInt64 - (p0 &&& (1073741823 : Int32)).toInt64))])
      refine Goes.ldcL S B (w23 hw) at_76 ?_
      show Goes _ _ _ _ T (mkF m 79 #[.val (.int p0), .val (.int p1), .val (.int p2), .val (.int (p0 &&& (1073741823 : Int32))), .val (.int ((p0 &&& (1073741823 : Int32)) + (p1 % (20 : Int32)))), .val (.int (bi (¬ ((p2 &&& (1 : Int32)) = (0 : Int32))))), .val (.int (bi (¬ ((p2 &&& (2 : Int32)) = (0 : Int32))))), .val (.ref b6), .unset, .unset] [(.long (8 : Int64)), (.long (((p0 &&& (1073741823 : Int32)) + (p1 % (20 : Int32))).toInt64 - (p0 &&& (1073741823 : Int32)).toInt64))])
      refine Goes.go (fun _ => XS.lcmp S.here B.x rfl (B.d at_79) rfl) ?_
      show Goes _ _ _ _ T (mkF m 80 #[.val (.int p0), .val (.int p1), .val (.int p2), .val (.int (p0 &&& (1073741823 : Int32))), .val (.int ((p0 &&& (1073741823 : Int32)) + (p1 % (20 : Int32)))), .val (.int (bi (¬ ((p2 &&& (1 : Int32)) = (0 : Int32))))), .val (.int (bi (¬ ((p2 &&& (2 : Int32)) = (0 : Int32))))), .val (.ref b6), .unset, .unset] [(.int (lcmpW (((p0 &&& (1073741823 : Int32)) + (p1 % (20 : Int32))).toInt64 - (p0 &&& (1073741823 : Int32)).toInt64) (8 : Int64)))])
      refine Goes.dia (P := (((p0 &&& (1073741823 : Int32)) + (p1 % (20 : Int32))).toInt64 - (p0 &&& (1073741823 : Int32)).toInt64) < (8 : Int64)) (mk := fun z => (mkF m 88 #[.val (.int p0), .val (.int p1), .val (.int p2), .val (.int (p0 &&& (1073741823 : Int32))), .val (.int ((p0 &&& (1073741823 : Int32)) + (p1 % (20 : Int32)))), .val (.int (bi (¬ ((p2 &&& (1 : Int32)) = (0 : Int32))))), .val (.int (bi (¬ ((p2 &&& (2 : Int32)) = (0 : Int32))))), .val (.ref b6), .unset, .unset] [(.int z)])) (fun hc80 kk => ?_) (fun hc80 kk => ?_) ?_
      · skip
        refine Goes.go (fun _ => XS.ifNo S.here B.x rfl (B.d at_80) rfl ((if0 _ _).trans (tlt ((lw_lt (((p0 &&& (1073741823 : Int32)) + (p1 % (20 : Int32))).toInt64 - (p0 &&& (1073741823 : Int32)).toInt64) (8 : Int64)).mpr hc80)).2.1)) ?_
        show Goes _ _ _ _ T (mkF m 83 #[.val (.int p0), .val (.int p1), .val (.int p2), .val (.int (p0 &&& (1073741823 : Int32))), .val (.int ((p0 &&& (1073741823 : Int32)) + (p1 % (20 : Int32)))), .val (.int (bi (¬ ((p2 &&& (1 : Int32)) = (0 : Int32))))), .val (.int (bi (¬ ((p2 &&& (2 : Int32)) = (0 : Int32))))), .val (.ref b6), .unset, .unset] [])
        refine Goes.go (fun _ => XS.iconst S.here B.x rfl (B.d at_83)) ?_
        show Goes _ _ _ _ T (mkF m 84 #[.val (.int p0), .val (.int p1), .val (.int p2), .val (.int (p0 &&& (1073741823 : Int32))), .val (.int ((p0 &&& (1073741823 : Int32)) + (p1 % (20 : Int32)))), .val (.int (bi (¬ ((p2 &&& (1 : Int32)) = (0 : Int32))))), .val (.int (bi (¬ ((p2 &&& (2 : Int32)) = (0 : Int32))))), .val (.ref b6), .unset, .unset] [(.int (1 : Int32))])
        refine Goes.go (fun _ => XS.goto S.here B.x rfl (pc0 := 84) (pc' := 88) rfl (B.d at_84) (by decide) (by decide)) ?_
        show Goes _ _ _ _ T (mkF m 88 #[.val (.int p0), .val (.int p1), .val (.int p2), .val (.int (p0 &&& (1073741823 : Int32))), .val (.int ((p0 &&& (1073741823 : Int32)) + (p1 % (20 : Int32)))), .val (.int (bi (¬ ((p2 &&& (1 : Int32)) = (0 : Int32))))), .val (.int (bi (¬ ((p2 &&& (2 : Int32)) = (0 : Int32))))), .val (.ref b6), .unset, .unset] [(.int (1 : Int32))])
        exact kk
      · skip
        refine Goes.go (fun _ => XS.ifYes S.here B.x rfl (pc0 := 80) (pc' := 87) rfl (B.d at_80) rfl ((if0 _ _).trans (flt (mt (lw_lt (((p0 &&& (1073741823 : Int32)) + (p1 % (20 : Int32))).toInt64 - (p0 &&& (1073741823 : Int32)).toInt64) (8 : Int64)).mp hc80)).2.1) (by decide) (by decide)) ?_
        show Goes _ _ _ _ T (mkF m 87 #[.val (.int p0), .val (.int p1), .val (.int p2), .val (.int (p0 &&& (1073741823 : Int32))), .val (.int ((p0 &&& (1073741823 : Int32)) + (p1 % (20 : Int32)))), .val (.int (bi (¬ ((p2 &&& (1 : Int32)) = (0 : Int32))))), .val (.int (bi (¬ ((p2 &&& (2 : Int32)) = (0 : Int32))))), .val (.ref b6), .unset, .unset] [])
        refine Goes.go (fun _ => XS.iconst S.here B.x rfl (B.d at_87)) ?_
        show Goes _ _ _ _ T (mkF m 88 #[.val (.int p0), .val (.int p1), .val (.int p2), .val (.int (p0 &&& (1073741823 : Int32))), .val (.int ((p0 &&& (1073741823 : Int32)) + (p1 % (20 : Int32)))), .val (.int (bi (¬ ((p2 &&& (1 : Int32)) = (0 : Int32))))), .val (.int (bi (¬ ((p2 &&& (2 : Int32)) = (0 : Int32))))), .val (.ref b6), .unset, .unset] [(.int (0 : Int32))])
        exact kk
      show Goes _ _ _ _ T (mkF m 88 #[.val (.int p0), .val (.int p1), .val (.int p2), .val (.int (p0 &&& (1073741823 : Int32))), .val (.int ((p0 &&& (1073741823 : Int32)) + (p1 % (20 : Int32)))), .val (.int (bi (¬ ((p2 &&& (1 : Int32)) = (0 : Int32))))), .val (.int (bi (¬ ((p2 &&& (2 : Int32)) = (0 : Int32))))), .val (.ref b6), .unset, .unset] [(.int (bi ((((p0 &&& (1073741823 : Int32)) + (p1 % (20 : Int32))).toInt64 - (p0 &&& (1073741823 : Int32)).toInt64) < (8 : Int64))))])
      refine Goes.go (fun _ => XS.istore S.here B.x rfl (B.d at_88) rfl (l' := #[.val (.int p0), .val (.int p1), .val (.int p2), .val (.int (p0 &&& (1073741823 : Int32))), .val (.int ((p0 &&& (1073741823 : Int32)) + (p1 % (20 : Int32)))), .val (.int (bi (¬ ((p2 &&& (1 : Int32)) = (0 : Int32))))), .val (.int (bi (¬ ((p2 &&& (2 : Int32)) = (0 : Int32))))), .val (.ref b6), .val (.int (bi ((((p0 &&& (1073741823 : Int32)) + (p1 % (20 : Int32))).toInt64 - (p0 &&& (1073741823 : Int32)).toInt64) < (8 : Int64)))), .unset]) rfl) ?_
      show Goes _ _ _ _ T (mkF m 90 #[.val (.int p0), .val (.int p1), .val (.int p2), .val (.int (p0 &&& (1073741823 : Int32))), .val (.int ((p0 &&& (1073741823 : Int32)) + (p1 % (20 : Int32)))), .val (.int (bi (¬ ((p2 &&& (1 : Int32)) = (0 : Int32))))), .val (.int (bi (¬ ((p2 &&& (2 : Int32)) = (0 : Int32))))), .val (.ref b6), .val (.int (bi ((((p0 &&& (1073741823 : Int32)) + (p1 % (20 : Int32))).toInt64 - (p0 &&& (1073741823 : Int32)).toInt64) < (8 : Int64)))), .unset] [])
      refine Goes.go (fun _ => XS.aload S.here B.x rfl (B.d at_90) rfl rfl) ?_
      show Goes _ _ _ _ T (mkF m 92 #[.val (.int p0), .val (.int p1), .val (.int p2), .val (.int (p0 &&& (1073741823 : Int32))), .val (.int ((p0 &&& (1073741823 : Int32)) + (p1 % (20 : Int32)))), .val (.int (bi (¬ ((p2 &&& (1 : Int32)) = (0 : Int32))))), .val (.int (bi (¬ ((p2 &&& (2 : Int32)) = (0 : Int32))))), .val (.ref b6), .val (.int (bi ((((p0 &&& (1073741823 : Int32)) + (p1 % (20 : Int32))).toInt64 - (p0 &&& (1073741823 : Int32)).toInt64) < (8 : Int64)))), .unset] [(.ref b6)])
      refine Goes.callV (argsL := []) (rest := []) (W := 0) S B (rm_cango l Z aw hw b6 (p0 &&& (1073741823 : Int32)) ((p0 &&& (1073741823 : Int32)) + (p1 % (20 : Int32))) (bi (¬ ((p2 &&& (1 : Int32)) = (0 : Int32)))) _ n0 F_b6_depth F_b6_deepestWithParts F_b6_holdsNoParts) E_b6 (w24 hw) (w25 hw) (w27 hw) (w26 hw) (w3 hw) (w28 hw) (by decide) (by decide) (by decide) (by decide) (by decide) rfl (lenOf pd_2 rfl) rfl (Nat.le_of_eq rfl) at_92 ?_
      intro v T h S hQ
      obtain ⟨rfl, hh⟩ := hQ
      replace hh := hh.symm
      subst hh
      show Goes _ _ _ _ T (mkF m 95 #[.val (.int p0), .val (.int p1), .val (.int p2), .val (.int (p0 &&& (1073741823 : Int32))), .val (.int ((p0 &&& (1073741823 : Int32)) + (p1 % (20 : Int32)))), .val (.int (bi (¬ ((p2 &&& (1 : Int32)) = (0 : Int32))))), .val (.int (bi (¬ ((p2 &&& (2 : Int32)) = (0 : Int32))))), .val (.ref b6), .val (.int (bi ((((p0 &&& (1073741823 : Int32)) + (p1 % (20 : Int32))).toInt64 - (p0 &&& (1073741823 : Int32)).toInt64) < (8 : Int64)))), .unset] [(.int (bi ((bi (¬ ((p2 &&& (1 : Int32)) = (0 : Int32)))) = (0 : Int32) ∧ ((p0 &&& (1073741823 : Int32)) + (p1 % (20 : Int32))) < ((p0 &&& (1073741823 : Int32)) + (8 : Int32)))))])
      refine Goes.go (fun _ => XS.iload S.here B.x rfl (B.d at_95) rfl) ?_
      show Goes _ _ _ _ T (mkF m 97 #[.val (.int p0), .val (.int p1), .val (.int p2), .val (.int (p0 &&& (1073741823 : Int32))), .val (.int ((p0 &&& (1073741823 : Int32)) + (p1 % (20 : Int32)))), .val (.int (bi (¬ ((p2 &&& (1 : Int32)) = (0 : Int32))))), .val (.int (bi (¬ ((p2 &&& (2 : Int32)) = (0 : Int32))))), .val (.ref b6), .val (.int (bi ((((p0 &&& (1073741823 : Int32)) + (p1 % (20 : Int32))).toInt64 - (p0 &&& (1073741823 : Int32)).toInt64) < (8 : Int64)))), .unset] [(.int (bi ((((p0 &&& (1073741823 : Int32)) + (p1 % (20 : Int32))).toInt64 - (p0 &&& (1073741823 : Int32)).toInt64) < (8 : Int64)))), (.int (bi ((bi (¬ ((p2 &&& (1 : Int32)) = (0 : Int32)))) = (0 : Int32) ∧ ((p0 &&& (1073741823 : Int32)) + (p1 % (20 : Int32))) < ((p0 &&& (1073741823 : Int32)) + (8 : Int32)))))])
      refine Goes.go (fun _ => XS.icmpYes S.here B.x rfl (pc0 := 97) (pc' := 102) rfl (B.d at_97) rfl (teq (bi_congr ⟨fun q => (own_lt _ _ (own_mask p0)).mp q.2, fun q => ⟨bi_neg hc67, (own_lt _ _ (own_mask p0)).mpr q⟩⟩ : (bi ((bi (¬ ((p2 &&& (1 : Int32)) = (0 : Int32)))) = (0 : Int32) ∧ ((p0 &&& (1073741823 : Int32)) + (p1 % (20 : Int32))) < ((p0 &&& (1073741823 : Int32)) + (8 : Int32)))) = (bi ((((p0 &&& (1073741823 : Int32)) + (p1 % (20 : Int32))).toInt64 - (p0 &&& (1073741823 : Int32)).toInt64) < (8 : Int64))))).1 (by decide) (by decide)) ?_
      show Goes _ _ _ _ T (mkF m 102 #[.val (.int p0), .val (.int p1), .val (.int p2), .val (.int (p0 &&& (1073741823 : Int32))), .val (.int ((p0 &&& (1073741823 : Int32)) + (p1 % (20 : Int32)))), .val (.int (bi (¬ ((p2 &&& (1 : Int32)) = (0 : Int32))))), .val (.int (bi (¬ ((p2 &&& (2 : Int32)) = (0 : Int32))))), .val (.ref b6), .val (.int (bi ((((p0 &&& (1073741823 : Int32)) + (p1 % (20 : Int32))).toInt64 - (p0 &&& (1073741823 : Int32)).toInt64) < (8 : Int64)))), .unset] [])
      refine Goes.go (fun _ => XS.aload S.here B.x rfl (B.d at_102) rfl rfl) ?_
      show Goes _ _ _ _ T (mkF m 104 #[.val (.int p0), .val (.int p1), .val (.int p2), .val (.int (p0 &&& (1073741823 : Int32))), .val (.int ((p0 &&& (1073741823 : Int32)) + (p1 % (20 : Int32)))), .val (.int (bi (¬ ((p2 &&& (1 : Int32)) = (0 : Int32))))), .val (.int (bi (¬ ((p2 &&& (2 : Int32)) = (0 : Int32))))), .val (.ref b6), .val (.int (bi ((((p0 &&& (1073741823 : Int32)) + (p1 % (20 : Int32))).toInt64 - (p0 &&& (1073741823 : Int32)).toInt64) < (8 : Int64)))), .unset] [(.ref b6)])
      have zle := S.le
      refine Goes.callV (argsL := []) (rest := []) (W := 0) S B (rm_deeper l Z aw hw b6 (p0 &&& (1073741823 : Int32)) ((p0 &&& (1073741823 : Int32)) + (p1 % (20 : Int32))) (bi (¬ ((p2 &&& (1 : Int32)) = (0 : Int32)))) (bi (¬ ((p2 &&& (2 : Int32)) = (0 : Int32)))) _ n0 E_b6 F_b6_depth F_b6_deepestWithParts F_b6_holdsNoParts F_b6_pastRepetition bi_or bi_or) E_b6 (w29 hw) (w30 hw) (w32 hw) (w31 hw) (w3 hw) (w33 hw) (by decide) (by decide) (by decide) (by decide) (by decide) rfl (lenOf pd_3 rfl) rfl (Nat.le_of_eq rfl) at_104 ?_
      intro v T h S hQ
      obtain ⟨b9, rfl, zb, Kc, E_b9', F_b9_depth', F_b9_deepestWithParts', F_b9_holdsNoParts', F_b9_pastRepetition'⟩ := hQ
      have ne_b6__b9 : b6 ≠ b9 := Nat.ne_of_lt (Nat.lt_of_lt_of_le E_b6.lt zb)
      have g_b9 : n0 ≤ b9 := Nat.le_trans zle zb
      replace E_b6 := E_b6.keep Kc
      replace F_b6_depth := F_b6_depth.keep Kc nin0
      replace F_b6_deepestWithParts := F_b6_deepestWithParts.keep Kc nin0
      replace F_b6_holdsNoParts := F_b6_holdsNoParts.keep Kc nin0
      replace F_b6_pastRepetition := F_b6_pastRepetition.keep Kc nin0
      have E_b9 := E_b9'
      have F_b9_depth := F_b9_depth'
      have F_b9_deepestWithParts := F_b9_deepestWithParts'
      have F_b9_holdsNoParts := F_b9_holdsNoParts'
      have F_b9_pastRepetition := F_b9_pastRepetition'
      show Goes _ _ _ _ T (mkF m 107 #[.val (.int p0), .val (.int p1), .val (.int p2), .val (.int (p0 &&& (1073741823 : Int32))), .val (.int ((p0 &&& (1073741823 : Int32)) + (p1 % (20 : Int32)))), .val (.int (bi (¬ ((p2 &&& (1 : Int32)) = (0 : Int32))))), .val (.int (bi (¬ ((p2 &&& (2 : Int32)) = (0 : Int32))))), .val (.ref b6), .val (.int (bi ((((p0 &&& (1073741823 : Int32)) + (p1 % (20 : Int32))).toInt64 - (p0 &&& (1073741823 : Int32)).toInt64) < (8 : Int64)))), .unset] [(.ref b9)])
      refine Goes.go (fun _ => XS.astore S.here B.x rfl (B.d at_107) rfl rfl (l' := #[.val (.int p0), .val (.int p1), .val (.int p2), .val (.int (p0 &&& (1073741823 : Int32))), .val (.int ((p0 &&& (1073741823 : Int32)) + (p1 % (20 : Int32)))), .val (.int (bi (¬ ((p2 &&& (1 : Int32)) = (0 : Int32))))), .val (.int (bi (¬ ((p2 &&& (2 : Int32)) = (0 : Int32))))), .val (.ref b6), .val (.int (bi ((((p0 &&& (1073741823 : Int32)) + (p1 % (20 : Int32))).toInt64 - (p0 &&& (1073741823 : Int32)).toInt64) < (8 : Int64)))), .val (.ref b9)]) rfl) ?_
      show Goes _ _ _ _ T (mkF m 109 #[.val (.int p0), .val (.int p1), .val (.int p2), .val (.int (p0 &&& (1073741823 : Int32))), .val (.int ((p0 &&& (1073741823 : Int32)) + (p1 % (20 : Int32)))), .val (.int (bi (¬ ((p2 &&& (1 : Int32)) = (0 : Int32))))), .val (.int (bi (¬ ((p2 &&& (2 : Int32)) = (0 : Int32))))), .val (.ref b6), .val (.int (bi ((((p0 &&& (1073741823 : Int32)) + (p1 % (20 : Int32))).toInt64 - (p0 &&& (1073741823 : Int32)).toInt64) < (8 : Int64)))), .val (.ref b9)] [])
      refine Goes.go (fun _ => XS.aload S.here B.x rfl (B.d at_109) rfl rfl) ?_
      show Goes _ _ _ _ T (mkF m 111 #[.val (.int p0), .val (.int p1), .val (.int p2), .val (.int (p0 &&& (1073741823 : Int32))), .val (.int ((p0 &&& (1073741823 : Int32)) + (p1 % (20 : Int32)))), .val (.int (bi (¬ ((p2 &&& (1 : Int32)) = (0 : Int32))))), .val (.int (bi (¬ ((p2 &&& (2 : Int32)) = (0 : Int32))))), .val (.ref b6), .val (.int (bi ((((p0 &&& (1073741823 : Int32)) + (p1 % (20 : Int32))).toInt64 - (p0 &&& (1073741823 : Int32)).toInt64) < (8 : Int64)))), .val (.ref b9)] [(.ref b9)])
      refine Goes.callV (argsL := []) (rest := []) (W := 0) S B (rm_cango l Z aw hw b9 (p0 &&& (1073741823 : Int32)) ((p0 &&& (1073741823 : Int32)) + (8 : Int32)) (bi (¬ ((p2 &&& (1 : Int32)) = (0 : Int32)))) _ n0 F_b9_depth F_b9_deepestWithParts F_b9_holdsNoParts) E_b9 (w24 hw) (w25 hw) (w27 hw) (w26 hw) (w3 hw) (w28 hw) (by decide) (by decide) (by decide) (by decide) (by decide) rfl (lenOf pd_2 rfl) rfl (Nat.le_of_eq rfl) at_111 ?_
      intro v T h S hQ
      obtain ⟨rfl, hh⟩ := hQ
      replace hh := hh.symm
      subst hh
      show Goes _ _ _ _ T (mkF m 114 #[.val (.int p0), .val (.int p1), .val (.int p2), .val (.int (p0 &&& (1073741823 : Int32))), .val (.int ((p0 &&& (1073741823 : Int32)) + (p1 % (20 : Int32)))), .val (.int (bi (¬ ((p2 &&& (1 : Int32)) = (0 : Int32))))), .val (.int (bi (¬ ((p2 &&& (2 : Int32)) = (0 : Int32))))), .val (.ref b6), .val (.int (bi ((((p0 &&& (1073741823 : Int32)) + (p1 % (20 : Int32))).toInt64 - (p0 &&& (1073741823 : Int32)).toInt64) < (8 : Int64)))), .val (.ref b9)] [(.int (bi ((bi (¬ ((p2 &&& (1 : Int32)) = (0 : Int32)))) = (0 : Int32) ∧ ((p0 &&& (1073741823 : Int32)) + (8 : Int32)) < ((p0 &&& (1073741823 : Int32)) + (8 : Int32)))))])
      refine Goes.go (fun _ => XS.ifYes S.here B.x rfl (pc0 := 114) (pc' := 119) rfl (B.d at_114) rfl ((if0 _ _).trans (teq (bi_neg (fun q => own_irr _ q.2 : ¬ ((bi (¬ ((p2 &&& (1 : Int32)) = (0 : Int32)))) = (0 : Int32) ∧ ((p0 &&& (1073741823 : Int32)) + (8 : Int32)) < ((p0 &&& (1073741823 : Int32)) + (8 : Int32)))))).1) (by decide) (by decide)) ?_
      show Goes _ _ _ _ T (mkF m 119 #[.val (.int p0), .val (.int p1), .val (.int p2), .val (.int (p0 &&& (1073741823 : Int32))), .val (.int ((p0 &&& (1073741823 : Int32)) + (p1 % (20 : Int32)))), .val (.int (bi (¬ ((p2 &&& (1 : Int32)) = (0 : Int32))))), .val (.int (bi (¬ ((p2 &&& (2 : Int32)) = (0 : Int32))))), .val (.ref b6), .val (.int (bi ((((p0 &&& (1073741823 : Int32)) + (p1 % (20 : Int32))).toInt64 - (p0 &&& (1073741823 : Int32)).toInt64) < (8 : Int64)))), .val (.ref b9)] [])
      refine Goes.go (fun _ => XS.aload S.here B.x rfl (B.d at_119) rfl rfl) ?_
      show Goes _ _ _ _ T (mkF m 121 #[.val (.int p0), .val (.int p1), .val (.int p2), .val (.int (p0 &&& (1073741823 : Int32))), .val (.int ((p0 &&& (1073741823 : Int32)) + (p1 % (20 : Int32)))), .val (.int (bi (¬ ((p2 &&& (1 : Int32)) = (0 : Int32))))), .val (.int (bi (¬ ((p2 &&& (2 : Int32)) = (0 : Int32))))), .val (.ref b6), .val (.int (bi ((((p0 &&& (1073741823 : Int32)) + (p1 % (20 : Int32))).toInt64 - (p0 &&& (1073741823 : Int32)).toInt64) < (8 : Int64)))), .val (.ref b9)] [(.ref b9)])
      have zle := S.le
      refine Goes.callV (argsL := []) (rest := []) (W := 0) S B (rm_ofpart l Z aw hw b9 (p0 &&& (1073741823 : Int32)) ((p0 &&& (1073741823 : Int32)) + (8 : Int32)) (bi (¬ ((p2 &&& (1 : Int32)) = (0 : Int32)))) (bi (¬ ((p2 &&& (2 : Int32)) = (0 : Int32)))) _ n0 E_b9 F_b9_depth F_b9_deepestWithParts F_b9_holdsNoParts F_b9_pastRepetition) E_b9 (w36 hw) (w37 hw) (w39 hw) (w38 hw) (w3 hw) (w40 hw) (by decide) (by decide) (by decide) (by decide) (by decide) rfl (lenOf pd_3 rfl) rfl (Nat.le_of_eq rfl) at_121 ?_
      intro v T h S hQ
      obtain ⟨b10, rfl, zb, Kc, E_b10', F_b10_depth', F_b10_deepestWithParts', F_b10_holdsNoParts', F_b10_pastRepetition'⟩ := hQ
      have ne_b6__b10 : b6 ≠ b10 := Nat.ne_of_lt (Nat.lt_of_lt_of_le E_b6.lt zb)
      have ne_b9__b10 : b9 ≠ b10 := Nat.ne_of_lt (Nat.lt_of_lt_of_le E_b9.lt zb)
      have g_b10 : n0 ≤ b10 := Nat.le_trans zle zb
      replace E_b6 := E_b6.keep Kc
      replace F_b6_depth := F_b6_depth.keep Kc nin0
      replace F_b6_deepestWithParts := F_b6_deepestWithParts.keep Kc nin0
      replace F_b6_holdsNoParts := F_b6_holdsNoParts.keep Kc nin0
      replace F_b6_pastRepetition := F_b6_pastRepetition.keep Kc nin0
      replace E_b9 := E_b9.keep Kc
      replace F_b9_depth := F_b9_depth.keep Kc nin0
      replace F_b9_deepestWithParts := F_b9_deepestWithParts.keep Kc nin0
      replace F_b9_holdsNoParts := F_b9_holdsNoParts.keep Kc nin0
      replace F_b9_pastRepetition := F_b9_pastRepetition.keep Kc nin0
      have E_b10 := E_b10'
      have F_b10_depth := F_b10_depth'
      have F_b10_deepestWithParts := F_b10_deepestWithParts'
      have F_b10_holdsNoParts := F_b10_holdsNoParts'
      have F_b10_pastRepetition := F_b10_pastRepetition'
      show Goes _ _ _ _ T (mkF m 124 #[.val (.int p0), .val (.int p1), .val (.int p2), .val (.int (p0 &&& (1073741823 : Int32))), .val (.int ((p0 &&& (1073741823 : Int32)) + (p1 % (20 : Int32)))), .val (.int (bi (¬ ((p2 &&& (1 : Int32)) = (0 : Int32))))), .val (.int (bi (¬ ((p2 &&& (2 : Int32)) = (0 : Int32))))), .val (.ref b6), .val (.int (bi ((((p0 &&& (1073741823 : Int32)) + (p1 % (20 : Int32))).toInt64 - (p0 &&& (1073741823 : Int32)).toInt64) < (8 : Int64)))), .val (.ref b9)] [(.ref b10)])
      refine Goes.callV (argsL := []) (rest := []) (W := 0) S B (rm_cango l Z aw hw b10 ((p0 &&& (1073741823 : Int32)) + (1 : Int32)) ((p0 &&& (1073741823 : Int32)) + (8 : Int32)) (0 : Int32) _ n0 F_b10_depth F_b10_deepestWithParts F_b10_holdsNoParts) E_b10 (w24 hw) (w25 hw) (w27 hw) (w26 hw) (w3 hw) (w28 hw) (by decide) (by decide) (by decide) (by decide) (by decide) rfl (lenOf pd_2 rfl) rfl (Nat.le_of_eq rfl) at_124 ?_
      intro v T h S hQ
      obtain ⟨rfl, hh⟩ := hQ
      replace hh := hh.symm
      subst hh
      show Goes _ _ _ _ T (mkF m 127 #[.val (.int p0), .val (.int p1), .val (.int p2), .val (.int (p0 &&& (1073741823 : Int32))), .val (.int ((p0 &&& (1073741823 : Int32)) + (p1 % (20 : Int32)))), .val (.int (bi (¬ ((p2 &&& (1 : Int32)) = (0 : Int32))))), .val (.int (bi (¬ ((p2 &&& (2 : Int32)) = (0 : Int32))))), .val (.ref b6), .val (.int (bi ((((p0 &&& (1073741823 : Int32)) + (p1 % (20 : Int32))).toInt64 - (p0 &&& (1073741823 : Int32)).toInt64) < (8 : Int64)))), .val (.ref b9)] [(.int (bi ((0 : Int32) = (0 : Int32) ∧ ((p0 &&& (1073741823 : Int32)) + (8 : Int32)) < (((p0 &&& (1073741823 : Int32)) + (1 : Int32)) + (8 : Int32)))))])
      refine Goes.go (fun _ => XS.ifYes S.here B.x rfl (pc0 := 127) (pc' := 132) rfl (B.d at_127) rfl ((if0 _ _).trans (feq (bi_ne (⟨rfl, own_up _ (own_mask p0)⟩ : (0 : Int32) = (0 : Int32) ∧ ((p0 &&& (1073741823 : Int32)) + (8 : Int32)) < (((p0 &&& (1073741823 : Int32)) + (1 : Int32)) + (8 : Int32))))).2) (by decide) (by decide)) ?_
      show Goes _ _ _ _ T (mkF m 132 #[.val (.int p0), .val (.int p1), .val (.int p2), .val (.int (p0 &&& (1073741823 : Int32))), .val (.int ((p0 &&& (1073741823 : Int32)) + (p1 % (20 : Int32)))), .val (.int (bi (¬ ((p2 &&& (1 : Int32)) = (0 : Int32))))), .val (.int (bi (¬ ((p2 &&& (2 : Int32)) = (0 : Int32))))), .val (.ref b6), .val (.int (bi ((((p0 &&& (1073741823 : Int32)) + (p1 % (20 : Int32))).toInt64 - (p0 &&& (1073741823 : Int32)).toInt64) < (8 : Int64)))), .val (.ref b9)] [])
      refine Goes.go (fun _ => XS.iconst S.here B.x rfl (B.d at_132)) ?_
      show Goes _ _ _ _ T (mkF m 133 #[.val (.int p0), .val (.int p1), .val (.int p2), .val (.int (p0 &&& (1073741823 : Int32))), .val (.int ((p0 &&& (1073741823 : Int32)) + (p1 % (20 : Int32)))), .val (.int (bi (¬ ((p2 &&& (1 : Int32)) = (0 : Int32))))), .val (.int (bi (¬ ((p2 &&& (2 : Int32)) = (0 : Int32))))), .val (.ref b6), .val (.int (bi ((((p0 &&& (1073741823 : Int32)) + (p1 % (20 : Int32))).toInt64 - (p0 &&& (1073741823 : Int32)).toInt64) < (8 : Int64)))), .val (.ref b9)] [(.int (1 : Int32))])
      refine Goes.retN S B (by simp) at_133 (by decide) (by decide) ?_
      exact rfl
set_option maxRecDepth 65536 in
set_option maxHeartbeats 40000000 in
theorem comes_1 {Post : Tables → Env → Array Value → State → Outcome → State → Prop} (hpost : ∀ tb e args s v u, (limb_1_1.after args s (.returned v) u = true ∧ limb_1_2.after args s (.returned v) u = true ∧ True) → FrameEnd s (.returned v) u (Jvm.fieldLocs frame_1_writes args s ++ Jvm.arrayLocs frame_1_arrays args s ++ Jvm.staticLocs frame_1_statics s) 16 128 → Post tb e args s (.returned v) u) :
    ArmFor flags0 classFile x code maxLocals ret World_1 tables_1 room_1 Calls_1 rest_1 Pre_1 Post := by
  intro l hfl _ _ p e ha hc hk s m args below hf hA hF happ hP
  obtain ⟨hcalls, hrest, hpre⟩ := hP
  obtain ⟨-, -, -, hnamed, -, -, -, hat⟩ := (Spec.applies_iff hf).mp happ
  obtain ⟨hg, hn⟩ := and_e (Cond.before_iff.mp (show (Jvm.Cond.and given_1 narrow_1).before args s = true from hpre))
  obtain ⟨g0, k0⟩ := and_e hg
  obtain ⟨g1, k1⟩ := and_e k0
  obtain ⟨g2, k2⟩ := and_e k1
  have g3 := k2
  obtain ⟨w0, w1, w2, rfl⟩ : ∃ w0 w1 w2 : Value, args = #[w0, w1, w2] := by
    have hs : args.size = 3 := by simpa [Cond.value, given_1] using g0
    obtain ⟨L⟩ := args
    match L, hs with
    | [w0, w1, w2], _ => exact ⟨w0, w1, w2, rfl⟩
  have hw := fun d (hd : d ∈ tables_1) => atoms_spec (ws := Jvm.Cond.code x code maxLocals ret :: tables_1) hat d (List.mem_cons_of_mem _ hd)
  obtain ⟨i0, ei0⟩ := is_v g1
  obtain rfl : w0 = (.int i0) := Option.some.inj ei0
  obtain ⟨i1, ei1⟩ := is_v g2
  obtain rfl : w1 = (.int i1) := Option.some.inj ei1
  obtain ⟨i2, ei2⟩ := is_v g3
  obtain rfl : w2 = (.int i2) := Option.some.inj ei2
  obtain ⟨n, o, h1, h2, h3, _, L, rfl, ⟨N, rfl⟩, hq⟩ := rm0 l s _ hw i0 i1 i2 s.heap s.heap.size (Nat.le_refl _) tables_1 p e ha hc hk s m _ below hf ((Spec.applies_iff_loose hf).mp happ).1 ⟨rfl, State.Warmed39.refl s, rfl⟩ trivial
  refine ⟨n, _, h1, h2, h3, hpost _ _ _ _ _ _ ⟨Cond.after_iff.mpr rfl, Cond.after_iff.mpr (eq_i res_at (Term.int_eval (1)) rfl), trivial⟩ ⟨hq.1, hq.2.1, (hq.2.2.sift fun y hy => Or.inr (N y hy)).mono (by decide) (by decide)⟩⟩
theorem main_1_1 : Claimed_1_1 := comes_1 fun _ _ _ _ _ _ h hF => ⟨h.1, hF⟩
theorem main_1_2 : Claimed_1_2 := comes_1 fun _ _ _ _ _ _ h hF => ⟨h.2.1, hF⟩
end Jvm.Pilot.@@N@@
namespace Jvm.Pilot.@@N@@
open Jvm Jvm.ClassFile Sem Op Lib Jvm.Free Jvm.Stand Jvm.Pilot.@@N@@.Jvm.D
/-! MADE BY PROGRAM (witnessworld.py) out of the Statement's table words and the real class files: 10 classes; the members and pool entries that the words name. The judged class is class 1, her method 1. -/
namespace start1
open Jvm.ClassFile
def u (s : String) : CpInfo := .utf8 (stringToUtf16 s)
/-- a pool by its gaps: so many unusable entries, then the entry; so many at the end -/
def gap : Nat → List CpInfo → List CpInfo
  | 0, r => r
  | n + 1, r => .unusable :: gap n r
def poolList (es : List (Nat × CpInfo)) (last : Nat) : List CpInfo := es.foldr (fun e r => gap e.1 (e.2 :: r)) (gap last [])
def pool (es : List (Nat × CpInfo)) (last : Nat) : Array CpInfo := ⟨poolList es last⟩
def fileOf (pool : Array CpInfo) (this : Nat) (attrs : Array Attribute := #[]) (ms : Array MethodInfo := #[]) (fl : Nat := 33) (sup : Nat := 0) (ifs : Array Nat := #[]) (fds : Array FieldInfo := #[]) : ClassFile where
  minorVersion := 0
  majorVersion := 65
  constantPool := pool
  accessFlags := fl
  thisClass := this
  superClass := sup
  interfaces := ifs
  fields := fds
  methods := ms
  attributes := attrs
def plain (name : String) (sup : Option ClassId) : Class where
  name := name
  kind := .ordinary
  loader := none
  accessFlags := 33
  super := sup
  interfaces := #[]
  cf := none
  fields := #[]
  methods := #[]
  instanceTypes := #[]
  staticTypes := #[]
  resolved := #[]
  callSites := []
  init := .initialized
  statics := none
  mirror := none

def pool0 : Array CpInfo := pool [(5, u "<init>"), (0, u "()V"), (1, .class_ 10), (1, u "java/lang/Object")] 113

def k0c0 : Code := { maxStack := 0, maxLocals := 1, code := object_method_1_code, exceptionTable := #[], attributes := #[] }
def k0m0 : Method := { name := "<init>", desc := "()V", sig := { parameters := [], returnType := none }, accessFlags := 1, code := some k0c0 }
/-- java/lang/Object -/
def k0 : Class := { plain "java/lang/Object" none with
  accessFlags := 33
  interfaces := #[]
  cf := some (fileOf pool0 8 #[] #[{ accessFlags := 1, nameIndex := 5, descriptorIndex := 6, attributes := #[] }] 33 0 #[] #[])
  fields := #[]
  methods := #[k0m0]
  instanceTypes := #[]
  staticTypes := #[]
  resolved := Array.replicate 124 none
  statics := none }

def pool1 : Array CpInfo := pool [(2, .class_ 4), (1, u "java/lang/Object"), (0, u "<init>"), (0, u "()V"), (0, .integer 1073741823), (0, .class_ 9), (0, u "com/example/arbitrary_objects/arbitraryobjects/engine/Cuts$Standing"), (0, .methodref 8 11), (0, .nameAndType 5 12), (0, u "(IIZZ)V"), (0, .long 8), (1, .methodref 8 16), (0, .nameAndType 17 18), (0, u "canGoDeeper"), (0, u "()Z"), (0, .methodref 8 20), (0, .nameAndType 21 22), (0, u "deeper"), (0, u "()Lcom/example/arbitrary_objects/arbitraryobjects/engine/Cuts$Standing;"), (0, .methodref 8 24), (0, .nameAndType 25 22), (0, u "ofPart"), (0, .class_ 27), (0, u "com/example/arbitrary_objects/arbitraryobjects/engine/StandingCanGoDeeperPinLaw"), (2, u "law"), (0, u "(III)Z")] 7

def k1m0 : Method := { name := "<init>", desc := "()V", sig := { parameters := [], returnType := none }, accessFlags := 1, code := none }
def k1c1 : Code := { maxStack := 6, maxLocals := 10, code := code, exceptionTable := #[], attributes := #[] }
def k1m1 : Method := { name := "law", desc := "(III)Z", sig := { parameters := [.int, .int, .int], returnType := some .boolean }, accessFlags := 9, code := some k1c1 }
/-- com/example/arbitrary_objects/arbitraryobjects/engine/StandingCanGoDeeperPinLaw -/
def k1 : Class := { plain "com/example/arbitrary_objects/arbitraryobjects/engine/StandingCanGoDeeperPinLaw" (some 0) with
  accessFlags := 49
  interfaces := #[]
  cf := some (fileOf pool1 26 #[] #[{ accessFlags := 1, nameIndex := 5, descriptorIndex := 6, attributes := #[] }, { accessFlags := 9, nameIndex := 30, descriptorIndex := 31, attributes := #[] }] 49 2 #[] #[])
  fields := #[]
  methods := #[k1m0, k1m1]
  instanceTypes := #[]
  staticTypes := #[]
  resolved := Array.replicate 39 none
  statics := none }

def pool2 : Array CpInfo := pool [(1, .methodref 2 3), (0, .class_ 4), (0, .nameAndType 5 6), (0, u "java/lang/Object"), (0, u "<init>"), (0, u "()V"), (0, .class_ 8), (0, u "java/lang/Record")] 13

def k2c0 : Code := { maxStack := 1, maxLocals := 1, code := jdk_30_method_1_code, exceptionTable := #[], attributes := #[] }
def k2m0 : Method := { name := "<init>", desc := "()V", sig := { parameters := [], returnType := none }, accessFlags := 4, code := some k2c0 }
/-- java/lang/Record -/
def k2 : Class := { plain "java/lang/Record" (some 0) with
  accessFlags := 1057
  interfaces := #[]
  cf := some (fileOf pool2 7 #[] #[{ accessFlags := 4, nameIndex := 5, descriptorIndex := 6, attributes := #[] }] 1057 2 #[] #[])
  fields := #[]
  methods := #[k2m0]
  instanceTypes := #[]
  staticTypes := #[]
  resolved := Array.replicate 22 none
  statics := none }

def pool3 : Array CpInfo := pool [(1, .class_ 2), (0, u "com/example/arbitrary_objects/arbitraryobjects/engine/Cuts"), (0, .methodref 4 5), (0, .class_ 6), (0, .nameAndType 7 8), (0, u "java/lang/Record"), (0, u "<init>"), (0, u "()V"), (0, .fieldref 10 11), (0, .class_ 12), (0, .nameAndType 13 14), (0, u "com/example/arbitrary_objects/arbitraryobjects/engine/Cuts$Standing"), (0, u "depth"), (0, u "I"), (0, .fieldref 10 16), (0, .nameAndType 17 14), (0, u "deepestWithParts"), (0, .fieldref 10 19), (0, .nameAndType 20 21), (0, u "holdsNoParts"), (0, u "Z"), (0, .fieldref 10 23), (0, .nameAndType 24 21), (0, u "pastRepetition"), (0, .methodref 10 26), (0, .nameAndType 7 27), (0, u "(IIZZ)V"), (14, u "TOP"), (0, u "Lcom/example/arbitrary_objects/arbitraryobjects/engine/Cuts$Standing;"), (3, u "ofPart"), (0, u "()Lcom/example/arbitrary_objects/arbitraryobjects/engine/Cuts$Standing;"), (2, u "()Z"), (1, u "canGoDeeper"), (2, u "deeper")] 30

def k3c0 : Code := { maxStack := 2, maxLocals := 5, code := prog_11_method_1_code, exceptionTable := #[], attributes := #[] }
def k3m0 : Method := { name := "<init>", desc := "(IIZZ)V", sig := { parameters := [.int, .int, .boolean, .boolean], returnType := none }, accessFlags := 0, code := some k3c0 }
def k3c1 : Code := { maxStack := 6, maxLocals := 1, code := prog_11_method_2_code, exceptionTable := #[], attributes := #[] }
def k3m1 : Method := { name := "ofPart", desc := "()Lcom/example/arbitrary_objects/arbitraryobjects/engine/Cuts$Standing;", sig := { parameters := [], returnType := some (.object "com/example/arbitrary_objects/arbitraryobjects/engine/Cuts$Standing") }, accessFlags := 0, code := some k3c1 }
def k3c2 : Code := { maxStack := 2, maxLocals := 1, code := prog_11_method_5_code, exceptionTable := #[], attributes := #[] }
def k3m2 : Method := { name := "canGoDeeper", desc := "()Z", sig := { parameters := [], returnType := some .boolean }, accessFlags := 0, code := some k3c2 }
def k3c3 : Code := { maxStack := 6, maxLocals := 1, code := prog_11_method_7_code, exceptionTable := #[], attributes := #[] }
def k3m3 : Method := { name := "deeper", desc := "()Lcom/example/arbitrary_objects/arbitraryobjects/engine/Cuts$Standing;", sig := { parameters := [], returnType := some (.object "com/example/arbitrary_objects/arbitraryobjects/engine/Cuts$Standing") }, accessFlags := 0, code := some k3c3 }
/-- com/example/arbitrary_objects/arbitraryobjects/engine/Cuts$Standing -/
def k3 : Class := { plain "com/example/arbitrary_objects/arbitraryobjects/engine/Cuts$Standing" (some 2) with
  accessFlags := 48
  interfaces := #[]
  cf := some (fileOf pool3 10 #[.nestHost 1] #[{ accessFlags := 0, nameIndex := 7, descriptorIndex := 27, attributes := #[] }, { accessFlags := 0, nameIndex := 47, descriptorIndex := 48, attributes := #[] }, { accessFlags := 0, nameIndex := 53, descriptorIndex := 51, attributes := #[] }, { accessFlags := 0, nameIndex := 56, descriptorIndex := 48, attributes := #[] }] 48 4 #[] #[{ accessFlags := 18, nameIndex := 13, descriptorIndex := 14, attributes := #[] }, { accessFlags := 18, nameIndex := 17, descriptorIndex := 14, attributes := #[] }, { accessFlags := 18, nameIndex := 20, descriptorIndex := 21, attributes := #[] }, { accessFlags := 18, nameIndex := 24, descriptorIndex := 21, attributes := #[] }, { accessFlags := 24, nameIndex := 42, descriptorIndex := 43, attributes := #[] }])
  fields := #[{ name := "depth", type := .int, accessFlags := 18, slot := 0, constantValue := 0 }, { name := "deepestWithParts", type := .int, accessFlags := 18, slot := 1, constantValue := 0 }, { name := "holdsNoParts", type := .boolean, accessFlags := 18, slot := 2, constantValue := 0 }, { name := "pastRepetition", type := .boolean, accessFlags := 18, slot := 3, constantValue := 0 }, { name := "TOP", type := (.object "com/example/arbitrary_objects/arbitraryobjects/engine/Cuts$Standing"), accessFlags := 24, slot := 0, constantValue := 0 }]
  methods := #[k3m0, k3m1, k3m2, k3m3]
  instanceTypes := #[.int, .int, .boolean, .boolean]
  staticTypes := #[(.object "com/example/arbitrary_objects/arbitraryobjects/engine/Cuts$Standing")]
  resolved := Array.replicate 87 none
  statics := none }

def pool4 : Array CpInfo := pool [(1, u "java/lang/Cloneable"), (0, .class_ 1), (0, u "java/lang/Object"), (0, .class_ 3)] 3

/-- java/lang/Cloneable -/
def k4 : Class := { plain "java/lang/Cloneable" (some 0) with
  accessFlags := 1537
  interfaces := #[]
  cf := some (fileOf pool4 2 #[] #[] 1537 4 #[] #[])
  fields := #[]
  methods := #[]
  instanceTypes := #[]
  staticTypes := #[]
  resolved := Array.replicate 8 none
  statics := none }

def pool5 : Array CpInfo := pool [(1, u "java/io/Serializable"), (0, .class_ 1), (0, u "java/lang/Object"), (0, .class_ 3)] 3

/-- java/io/Serializable -/
def k5 : Class := { plain "java/io/Serializable" (some 0) with
  accessFlags := 1537
  interfaces := #[]
  cf := some (fileOf pool5 2 #[] #[] 1537 4 #[] #[])
  fields := #[]
  methods := #[]
  instanceTypes := #[]
  staticTypes := #[]
  resolved := Array.replicate 8 none
  statics := none }

/-- the primitive byte -/
def k6 : Class := { plain "byte" none with kind := .primitive 'B', accessFlags := 0x411 }
/-- [B -/
def k7 : Class := { plain "[B" (some 0) with kind := .array 6 .byte, interfaces := #[4, 5], accessFlags := 1041 }

/-- the primitive int -/
def k8 : Class := { plain "int" none with kind := .primitive 'I', accessFlags := 0x411 }
/-- [I -/
def k9 : Class := { plain "[I" (some 0) with kind := .array 8 .int, interfaces := #[4, 5], accessFlags := 1041 }

def heap : Heap := #[]
def classes : Array Class := #[k0, k1, k2, k3, k4, k5, k6, k7, k8, k9]
def interned : List (Array UInt16 × Addr) := []
def slotsUsed : Nat := 0
def theMethod : MethodId := ⟨1, 1⟩
def args0 : Array Value := #[.int 5, .int 3, .int 1]
def aboutOver (below : List Frame) : State where
  vm := { classes := classes, interned := interned.toArray }
  heap := heap
  slotsUsed := slotsUsed
  threads := #[{ frames := .invoking theMethod args0 :: below }]
def below0 : List Frame := [.native { method := ⟨0, 0⟩, args := #[] }]
def about1 : State := aboutOver below0
def p0 : Program := .bare "" "" ""
def e0 : Env := launch0.env 0 0 0
theorem w_frames : about1.frames = Frame.invoking theMethod args0 :: below0 := rfl
set_option maxRecDepth 65536 in
theorem w_args : argsFit about1.vm theMethod args0 = true := by decide +kernel
set_option maxRecDepth 65536 in
theorem w_heap : heapFits about1 = true := by decide +kernel
set_option maxRecDepth 65536 in
theorem w_runnable : about1.curStatus? = some .runnable := by decide +kernel
set_option maxRecDepth 65536 in
theorem w_alone : about1.alone = true := by decide +kernel
set_option maxRecDepth 65536 in
theorem w_named : about1.methodNamed? x = some theMethod := by decide +kernel
set_option maxRecDepth 65536 in
theorem w_hears : about1.hears theMethod below0 = true := by decide +kernel
set_option maxRecDepth 65536 in
theorem w_ripe : about1.ripe theMethod args0 below0 = true := by decide +kernel
theorem w_running : about1.status = .running := rfl
set_option maxRecDepth 65536 in
theorem w_room : about1.hasRoom e0.platform room_1 = true :=
  launch0.hasRoom_least _ room_1 (by decide +kernel) (by decide +kernel) (by decide +kernel) (by decide +kernel) (by decide +kernel) (by decide +kernel)
theorem allAtoms_all (ts : List Jvm.Cond) (a : Array Jvm.Value) (st : Jvm.State) : (allAtoms ts).before a st = ts.all (fun c => c.before a st) := by
  induction ts with
  | nil => rfl
  | cons c t ih =>
    show (Jvm.Cond.and c (allAtoms t)).before a st = _
    rw [Jvm.Cond.before_and, ih, List.all_cons]
def words1 : List Jvm.Cond := Jvm.Cond.code x code maxLocals ret :: tables_1
/-- a 'code' word, met by the world's own term for the bytes: nothing is compared byte by byte -/
theorem code_word {y : MethodName} {bytes : ByteArray} {mx : Nat} {rt : Option FieldType} {a : Array Value} {s : State} {m : MethodId} {meth : Method} {c : Code} (h1 : s.methodNamed? y = some m) (h2 : s.vm.method? m = some meth) (h3 : meth.code = some c) (h4 : c.code = bytes)
    (h5 : (c.maxLocals == mx && c.exceptionTable.isEmpty && decide (c.maxStack ≤ mostOperands) && decide (meth.sig.returnType = rt) && !meth.locks && decide (parseMethodDescriptor y.desc = some meth.sig)) = true) : (Jvm.Cond.code y bytes mx rt).before a s = true := by
  simp only [Bool.and_eq_true, beq_iff_eq, Bool.not_eq_true', decide_eq_true_eq] at h5
  obtain ⟨⟨⟨⟨⟨g1, g2⟩, g3⟩, g4⟩, g5⟩, g6⟩ := h5
  simp [Cond.before, Cond.holds, Cond.value, h1, h2, h3, h4, g1, g2, g3, g4, g5, g6]
def isCode : Jvm.Cond → Bool
  | .code _ _ _ _ => true
  | _ => false
theorem all_split {L : List Jvm.Cond} {P : Jvm.Cond → Bool} (h1 : L.all (fun c => isCode c || P c) = true) (h2 : ∀ c ∈ L.filter isCode, P c = true) : L.all P = true := by
  refine List.all_eq_true.mpr fun c hc => ?_
  have h := List.all_eq_true.mp h1 c hc
  rcases Bool.eq_false_or_eq_true (isCode c) with hi | hi
  · exact h2 c (List.mem_filter.mpr ⟨hc, hi⟩)
  · simpa [hi] using h
set_option maxRecDepth 65536 in
theorem w_c0 : (Jvm.Cond.code x code maxLocals ret).before args0 about1 = true := code_word (m := ⟨1, 1⟩) (meth := k1m1) (c := k1c1) (by decide +kernel) rfl rfl rfl (by decide +kernel)
set_option maxRecDepth 65536 in
theorem w_c1 : (Jvm.Cond.code ({ cls := "com/example/arbitrary_objects/arbitraryobjects/engine/Cuts$Standing", name := "<init>", desc := "(IIZZ)V" } : Jvm.MethodName) prog_11_method_1_code (5 : Nat) (Option.none : Option Jvm.ClassFile.FieldType)).before args0 about1 = true := code_word (m := ⟨3, 0⟩) (meth := k3m0) (c := k3c0) (by decide +kernel) rfl rfl rfl (by decide +kernel)
set_option maxRecDepth 65536 in
theorem w_c2 : (Jvm.Cond.code ({ cls := "java/lang/Record", name := "<init>", desc := "()V" } : Jvm.MethodName) jdk_30_method_1_code (1 : Nat) (Option.none : Option Jvm.ClassFile.FieldType)).before args0 about1 = true := code_word (m := ⟨2, 0⟩) (meth := k2m0) (c := k2c0) (by decide +kernel) rfl rfl rfl (by decide +kernel)
set_option maxRecDepth 65536 in
theorem w_c3 : (Jvm.Cond.code ({ cls := "java/lang/Object", name := "<init>", desc := "()V" } : Jvm.MethodName) object_method_1_code (1 : Nat) (Option.none : Option Jvm.ClassFile.FieldType)).before args0 about1 = true := code_word (m := ⟨0, 0⟩) (meth := k0m0) (c := k0c0) (by decide +kernel) rfl rfl rfl (by decide +kernel)
set_option maxRecDepth 65536 in
theorem w_c4 : (Jvm.Cond.code ({ cls := "com/example/arbitrary_objects/arbitraryobjects/engine/Cuts$Standing", name := "canGoDeeper", desc := "()Z" } : Jvm.MethodName) prog_11_method_5_code (1 : Nat) (Option.some Jvm.ClassFile.FieldType.boolean)).before args0 about1 = true := code_word (m := ⟨3, 2⟩) (meth := k3m2) (c := k3c2) (by decide +kernel) rfl rfl rfl (by decide +kernel)
set_option maxRecDepth 65536 in
theorem w_c5 : (Jvm.Cond.code ({ cls := "com/example/arbitrary_objects/arbitraryobjects/engine/Cuts$Standing", name := "deeper", desc := "()Lcom/example/arbitrary_objects/arbitraryobjects/engine/Cuts$Standing;" } : Jvm.MethodName) prog_11_method_7_code (1 : Nat) (Option.some (Jvm.ClassFile.FieldType.object "com/example/arbitrary_objects/arbitraryobjects/engine/Cuts$Standing"))).before args0 about1 = true := code_word (m := ⟨3, 3⟩) (meth := k3m3) (c := k3c3) (by decide +kernel) rfl rfl rfl (by decide +kernel)
set_option maxRecDepth 65536 in
theorem w_c6 : (Jvm.Cond.code ({ cls := "com/example/arbitrary_objects/arbitraryobjects/engine/Cuts$Standing", name := "ofPart", desc := "()Lcom/example/arbitrary_objects/arbitraryobjects/engine/Cuts$Standing;" } : Jvm.MethodName) prog_11_method_2_code (1 : Nat) (Option.some (Jvm.ClassFile.FieldType.object "com/example/arbitrary_objects/arbitraryobjects/engine/Cuts$Standing"))).before args0 about1 = true := code_word (m := ⟨3, 1⟩) (meth := k3m1) (c := k3c1) (by decide +kernel) rfl rfl rfl (by decide +kernel)
def codes1 : List Jvm.Cond := [Jvm.Cond.code x code maxLocals ret, Jvm.Cond.code ({ cls := "com/example/arbitrary_objects/arbitraryobjects/engine/Cuts$Standing", name := "<init>", desc := "(IIZZ)V" } : Jvm.MethodName) prog_11_method_1_code (5 : Nat) (Option.none : Option Jvm.ClassFile.FieldType), Jvm.Cond.code ({ cls := "java/lang/Record", name := "<init>", desc := "()V" } : Jvm.MethodName) jdk_30_method_1_code (1 : Nat) (Option.none : Option Jvm.ClassFile.FieldType), Jvm.Cond.code ({ cls := "java/lang/Object", name := "<init>", desc := "()V" } : Jvm.MethodName) object_method_1_code (1 : Nat) (Option.none : Option Jvm.ClassFile.FieldType), Jvm.Cond.code ({ cls := "com/example/arbitrary_objects/arbitraryobjects/engine/Cuts$Standing", name := "canGoDeeper", desc := "()Z" } : Jvm.MethodName) prog_11_method_5_code (1 : Nat) (Option.some Jvm.ClassFile.FieldType.boolean), Jvm.Cond.code ({ cls := "com/example/arbitrary_objects/arbitraryobjects/engine/Cuts$Standing", name := "deeper", desc := "()Lcom/example/arbitrary_objects/arbitraryobjects/engine/Cuts$Standing;" } : Jvm.MethodName) prog_11_method_7_code (1 : Nat) (Option.some (Jvm.ClassFile.FieldType.object "com/example/arbitrary_objects/arbitraryobjects/engine/Cuts$Standing")), Jvm.Cond.code ({ cls := "com/example/arbitrary_objects/arbitraryobjects/engine/Cuts$Standing", name := "ofPart", desc := "()Lcom/example/arbitrary_objects/arbitraryobjects/engine/Cuts$Standing;" } : Jvm.MethodName) prog_11_method_2_code (1 : Nat) (Option.some (Jvm.ClassFile.FieldType.object "com/example/arbitrary_objects/arbitraryobjects/engine/Cuts$Standing"))]
set_option maxRecDepth 65536 in
theorem codes_eq : words1.filter isCode = codes1 := rfl
theorem w_codes : ∀ c ∈ words1.filter isCode, c.before args0 about1 = true := by
  rw [codes_eq]
  intro c hc
  simp only [codes1, List.mem_cons, List.not_mem_nil, or_false] at hc
  rcases hc with rfl | rfl | rfl | rfl | rfl | rfl | rfl
  · exact w_c0
  · exact w_c1
  · exact w_c2
  · exact w_c3
  · exact w_c4
  · exact w_c5
  · exact w_c6
set_option maxRecDepth 65536 in
theorem w_t1 : (words1.take 24).all (fun c => isCode c || c.before args0 about1) = true := by decide +kernel
set_option maxRecDepth 65536 in
theorem w_t2 : (words1.drop 24).all (fun c => isCode c || c.before args0 about1) = true := by decide +kernel
theorem w_tables : (allAtoms (Jvm.Cond.code x code maxLocals ret :: tables_1)).before args0 about1 = true := by
  rw [allAtoms_all]
  show words1.all (fun c => c.before args0 about1) = true
  refine all_split ?_ w_codes
  rw [← List.take_append_drop 24 words1, List.all_append, w_t1, w_t2]
  rfl
set_option maxRecDepth 65536 in
theorem w_case : (Jvm.Cond.and given_1 narrow_1).before args0 about1 = true := by decide +kernel
theorem w_applies : (headSpec (Jvm.Cond.code x code maxLocals ret :: tables_1) room_1).applies x e0.platform about1 = true :=
  (Spec.applies_iff w_frames).mpr ⟨w_running, w_runnable, w_alone, w_named, w_hears, w_ripe, w_room, w_tables⟩
theorem atStart : AtStart classFile x code maxLocals ret World_1 tables_1 room_1 Calls_1 rest_1 Pre_1 launch0 p0 e0 about1 theMethod args0 below0 :=
  ⟨lists_1, trivial, launch0.admits_env _ _ _, launch0.least_env, fairChoices_fair.cas, fairChoices_fair.clock, w_frames, w_args, w_heap, w_applies, trivial, trivial, w_case⟩
end start1
theorem witness_1 : WitnessClaimed_1 := ⟨start1.p0, start1.e0, start1.about1, start1.theMethod, start1.args0, start1.below0, start1.atStart⟩
end Jvm.Pilot.@@N@@
