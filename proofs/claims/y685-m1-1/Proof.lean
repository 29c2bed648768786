import JvmDerived
import JvmDerived.Pilot.@@N@@Statement
import JvmDerived.Pilot.@@N@@Code
set_option linter.unusedVariables false
set_option linter.unusedSimpArgs false
namespace Jvm.OwnKit
open Sem ClassFile Op Lib Jvm.Stand Jvm.Free Jvm.LawKit Jvm.RoadKit
/-! A small layer of my own over the library's laws: 'Goes': from this frame the body comes to its end; each law turned so that it reads backwards. -/
def Goes (tb : Tables) (e : Env) (below : List Frame) (Φ : Outcome → State → Prop) (T : State) (f : JFrame) : Prop :=
  ∃ s₂ o, Steps tb e below (T.setTop f) s₂ ∧ s₂.status = .running ∧ Ended s₂ below o ∧ Φ o s₂
def Fine (s : State) (n0 : Nat) (Q : Option Value → Heap → Prop) (rc rs : Nat) (o : Outcome) (U : State) : Prop :=
  ∃ v L, o = .returned v ∧ (Fr n0 L ∧ Q v U.heap) ∧ FrameEnd s o U L rc rs
def Base (p : Program) (s : State) (m : MethodId) (meth : Method) (c : Code) (Z : State) (y : MethodName) (bytes : ByteArray) (maxL : Nat) (ret : Option FieldType) : Prop :=
  p.tables.exec = Jvm.exec ∧ Z.Warmed39 s.vm ∧ c.code = bytes ∧ c.maxLocals = maxL ∧ s.vm.findClass y.cls = some m.cls ∧ meth.name = y.name ∧ meth.sig.returnType = ret ∧ meth.locks = false
def Sd (p : Program) (l : Launch) (e : Env) (R : Room) (s : State) (m : MethodId) (args : Array Value) (below : List Frame) (meth : Method) (c : Code) (T : State) (h : Heap) (n0 cells slots : Nat) : Prop :=
  ∃ locs, Stand p l e R s m args below meth c T locs cells slots ∧ T.heap = h ∧ Fr n0 locs ∧ n0 ≤ s.heap.size
def Con (l : Launch) (Z : State) (y : MethodName) (bytes : ByteArray) (maxL : Nat) (ret : Option FieldType) (rm : Room) (as' : Array Value) (h0 : Heap) (n0 : Nat) (Q : Option Value → Heap → Prop) : Prop :=
  n0 ≤ h0.size → ∀ ws : List Cond, MetFree l y (head1 (Cond.code y bytes maxL ret :: ws) rm) (fun a U => a = as' ∧ Z.Warmed39 U.vm ∧ U.heap = h0) (fun _ _ _ _ _ => True) (fun _ U o U' => ∃ v L, o = .returned v ∧ (Fr n0 L ∧ Q v U'.heap) ∧ FrameEnd U o U' L rm.cells rm.slots)
/-! a condition as 1 or 0 -/
def bi (P : Prop) [Decidable P] : Int32 := if P then 1 else 0
theorem bi_pos {P : Prop} [Decidable P] (h : P) : bi P = 1 := if_pos h
theorem bi_neg {P : Prop} [Decidable P] (h : ¬ P) : bi P = 0 := if_neg h
theorem bi_ne {P : Prop} [Decidable P] (h : P) : ¬ bi P = 0 := by rw [bi_pos h]; decide
theorem bi_congr {P P' : Prop} [Decidable P] [Decidable P'] (h : P ↔ P') : bi P = bi P' := by by_cases q : P <;> simp [bi, q, h.mp, ← h]
theorem bi_one {P : Prop} [Decidable P] : bi P = 1 ↔ P := by by_cases q : P <;> simp [bi, q]
theorem bi_zero {P : Prop} [Decidable P] : bi P = 0 ↔ ¬ P := by by_cases q : P <;> simp [bi, q]
theorem bi_inj {P P' : Prop} [Decidable P] [Decidable P'] : bi P = bi P' ↔ (P ↔ P') := by by_cases q : P <;> by_cases q' : P' <;> simp [bi, q, q']
theorem bi_or {P : Prop} [Decidable P] : bi P = 0 ∨ bi P = 1 := by by_cases q : P <;> simp [bi, q]
theorem nar_bi {P : Prop} [Decidable P] : nar .boolean (bi P) = bi P := by by_cases q : P <;> simp [bi, q, nar]
theorem fits_bi {P : Prop} [Decidable P] : fits .boolean (.int (bi P)) = true := by by_cases q : P <;> simp [bi, q] <;> decide
theorem narrow_bi {P : Prop} [Decidable P] : narrow .boolean (.int (bi P)) = .int (bi P) := by by_cases q : P <;> simp [bi, q] <;> rfl
section Lay
variable {p : Program} {l : Launch} {e : Env} {R : Room} {s : State} {m : MethodId} {args : Array Value} {below : List Frame} {meth : Method} {c : Code} {T : State} {h : Heap} {n0 cells slots : Nat} {Z : State} {a0 : Array Value} {Φ : Outcome → State → Prop} {y0 : MethodName} {bytes0 : ByteArray} {maxL0 : Nat} {ret0 : Option FieldType} {pc : Nat} {Ls : Array Slot} {st rest : List Value}
theorem Goes.go {tb : Tables} {T' : State} {f f' : JFrame} (k : ∀ t, Steps tb e below (T'.setTop f') t → Steps tb e below (T.setTop f) t) (g : Goes tb e below Φ T' f') : Goes tb e below Φ T f := by
  obtain ⟨s2, o, h1, h2⟩ := g
  exact ⟨s2, o, k _ h1, h2⟩
theorem Goes.dia {tb : Tables} {P : Prop} [Decidable P] {f : JFrame} {mk : Int32 → JFrame} (h1 : P → Goes tb e below Φ T (mk 1) → Goes tb e below Φ T f) (h0 : ¬ P → Goes tb e below Φ T (mk 0) → Goes tb e below Φ T f) (k : Goes tb e below Φ T (mk (bi P))) : Goes tb e below Φ T f := by
  by_cases q : P
  · rw [bi_pos q] at k; exact h1 q k
  · rw [bi_neg q] at k; exact h0 q k
theorem Goes.cast {tb : Tables} {f f' : JFrame} (q : f = f') (g : Goes tb e below Φ T f') : Goes tb e below Φ T f := q ▸ g
theorem Sd.here (S : Sd p l e R s m args below meth c T h n0 cells slots) : At T m c below := by obtain ⟨_, X, -⟩ := S; exact X.here
theorem Sd.le (S : Sd p l e R s m args below meth c T h n0 cells slots) : n0 ≤ h.size := by
  obtain ⟨_, X, e, -, q⟩ := S
  have h1 := X.same.2.1
  have h2 : s.heap.size ≤ T.heap.size := h1
  rw [e] at h2
  exact Nat.le_trans q h2
theorem Base.x (B : Base p s m meth c Z y0 bytes0 maxL0 ret0) : p.tables.exec = Jvm.exec := B.1
theorem Base.d (B : Base p s m meth c Z y0 bytes0 maxL0 ret0) {r : Except DecodeError (Instr × Nat)} (hd : decode bytes0 pc = r) : decode c.code pc = r := B.2.2.1 ▸ hd
theorem Con.body {y : MethodName} {bytes : ByteArray} {maxL : Nat} {ret : Option FieldType} {rm : Room} {as' : Array Value} {h0 : Heap} {Q : Option Value → Heap → Prop} (hpl : plainFor y = true)
    (k : ∀ (p : Program) (e : Env) (s : State) (m : MethodId) (below : List Frame) (meth : Method) (c : Code) (T : State), Base p s m meth c Z y bytes maxL ret → Sd p l e rm s m as' below meth c T h0 n0 0 0 → Goes p.tables e below (Fine s n0 Q rm.cells rm.slots) T (entryFrame m as' maxL)) :
    Con l Z y bytes maxL ret rm as' h0 n0 Q := by
  intro hn ws
  refine MetFree.of_bodySF hpl hisR ?_
  intro p e s m args below meth c s₁ Bd hml0 hP hK
  obtain ⟨rfl, hZ, hh⟩ := hP
  have e0 : s₁.heap = h0 := by rw [← hh, Bd.state]; rfl
  exact k p e s m below meth c s₁ ⟨Bd.exec, hZ, Bd.bytes, hml0, findClass_of_methodNamed Bd.named, (name_of_methodNamed Bd.named Bd.method).1, Bd.returns, Bd.notSynchronized⟩ ⟨[], Stand.of_body Bd, e0, Fr.nil n0, by rw [hh]; exact hn⟩
theorem Goes.acmp {cd : ACond} {x y : Value} {o : Int} {pc' : Nat} {same : Bool} (S : Sd p l e R s m args below meth c T h n0 cells slots) (B : Base p s m meth c Z y0 bytes0 maxL0 ret0) (h1 : x.isRef = true) (h2 : y.isRef = true) (hd : decode bytes0 pc = .ok (.if_acmp cd o, 3)) (hq : decide (x = y) = same) (ho : 0 ≤ (pc : Int) + o) (hp : pc' = if acV cd same = true then ((pc : Int) + o).toNat else pc + 3)
    (k : Goes p.tables e below Φ T (mkF m pc' Ls rest)) : Goes p.tables e below Φ T (mkF m pc Ls (y :: x :: rest)) := by
  obtain ⟨locs, X, eT, N, hn⟩ := S
  exact Goes.go (fun t => RoadKit.acmp X B.1 (g := mkF m pc Ls (y :: x :: rest)) rfl h1 h2 (pc0 := pc) (pc' := pc') (same := same) rfl (B.d hd) rfl hq ho hp) k
theorem Goes.pop2L {z : Int64} (S : Sd p l e R s m args below meth c T h n0 cells slots) (B : Base p s m meth c Z y0 bytes0 maxL0 ret0) (hd : decode bytes0 pc = .ok (.pop2, 1)) (k : Goes p.tables e below Φ T (mkF m (pc + 1) Ls rest)) : Goes p.tables e below Φ T (mkF m pc Ls (.long z :: rest)) := by
  obtain ⟨locs, X, eT, N, hn⟩ := S
  refine Goes.go (fun t kk => ?_) k
  have hx := B.1
  have hd' := B.d hd
  show Steps p.tables e below (T.setTop { method := m, pc := pc, locals := Ls, stack := _ :: rest, locked := none }) _
  jvm_step X.here [X.here.top, hx, hd', Value.category]
  exact kk
theorem Goes.irem {x y : Int32} (S : Sd p l e R s m args below meth c T h n0 cells slots) (B : Base p s m meth c Z y0 bytes0 maxL0 ret0) (hd : decode bytes0 pc = .ok (.irem, 1)) (hy : y ≠ 0) (k : Goes p.tables e below Φ T (mkF m (pc + 1) Ls (.int (x % y) :: rest))) : Goes p.tables e below Φ T (mkF m pc Ls (.int y :: .int x :: rest)) := by
  obtain ⟨locs, X, eT, N, hn⟩ := S
  exact Goes.go (fun t => RoadKit.iremM X B.1 (g := mkF m pc Ls (.int y :: .int x :: rest)) rfl (B.d hd) rfl hy) k
theorem Goes.lrem {x y : Int64} (S : Sd p l e R s m args below meth c T h n0 cells slots) (B : Base p s m meth c Z y0 bytes0 maxL0 ret0) (hd : decode bytes0 pc = .ok (.lrem, 1)) (hy : y ≠ 0) (k : Goes p.tables e below Φ T (mkF m (pc + 1) Ls (.long (x % y) :: rest))) : Goes p.tables e below Φ T (mkF m pc Ls (.long y :: .long x :: rest)) := by
  obtain ⟨locs, X, eT, N, hn⟩ := S
  refine Goes.go (fun t kk => XS.lrem X.here B.1 (g := mkF m pc Ls (.long y :: .long x :: rest)) rfl (B.d hd) rfl hy ?_) k
  rw [lrem_mod]
  exact kk
/-! the ends -/
section Ends
variable {Q : Option Value → Heap → Prop} {rc rs : Nat}
theorem Goes.retV (S : Sd p l e R s m args below meth c T h n0 cells slots) (B : Base p s m meth c Z y0 bytes0 maxL0 none) (hd : decode bytes0 pc = .ok (.return_, 1)) (hc : cells ≤ rc) (hs : slots ≤ rs) (hq : Q none h) :
    Goes p.tables e below (Fine s n0 Q rc rs) T (mkF m pc Ls []) := by
  obtain ⟨locs, X, eT, N, -⟩ := S
  obtain ⟨fs, hr, hrun, hended, hW, hsame⟩ := X.leave (v := none) (fun _ => rfl) B.2.2.2.2.2.2.2
  subst eT
  exact ⟨_, _, X.returnOut B.1 B.2.2.2.2.2.2.1 (B.d hd) hr, hrun, hended, _, _, rfl, ⟨N, hq⟩, ⟨_, rfl⟩, hW, hsame.mono hc hs⟩
theorem Goes.retN {t : FieldType} {z : Int32} (S : Sd p l e R s m args below meth c T h n0 cells slots) (B : Base p s m meth c Z y0 bytes0 maxL0 (some t)) (ht : t = .boolean ∨ t = .byte ∨ t = .char ∨ t = .short) (hd : decode bytes0 pc = .ok (.ireturn, 1)) (hc : cells ≤ rc) (hs : slots ≤ rs) (hq : Q (some (.int (nar t z))) h) :
    Goes p.tables e below (Fine s n0 Q rc rs) T (mkF m pc Ls (.int z :: rest)) := by
  obtain ⟨locs, X, eT, N, -⟩ := S
  obtain ⟨fs, hr, hrun, hended, hW, hsame⟩ := X.leave (v := some (.int (nar t z))) (fun h => by rw [B.2.2.2.2.2.2.1] at h; cases h) B.2.2.2.2.2.2.2
  subst eT
  exact ⟨_, _, RoadKit.retN X B.1 B.2.2.2.2.2.2.1 ht (B.d hd) hr, hrun, hended, _, _, rfl, ⟨N, hq⟩, ⟨_, rfl⟩, hW, hsame.mono hc hs⟩
theorem Goes.retI {z : Int32} (S : Sd p l e R s m args below meth c T h n0 cells slots) (B : Base p s m meth c Z y0 bytes0 maxL0 (some .int)) (hd : decode bytes0 pc = .ok (.ireturn, 1)) (hc : cells ≤ rc) (hs : slots ≤ rs) (hq : Q (some (.int z)) h) :
    Goes p.tables e below (Fine s n0 Q rc rs) T (mkF m pc Ls (.int z :: rest)) := by
  obtain ⟨locs, X, eT, N, -⟩ := S
  obtain ⟨fs, hr, hrun, hended, hW, hsame⟩ := X.leave (v := some (.int z)) (fun h => by rw [B.2.2.2.2.2.2.1] at h; cases h) B.2.2.2.2.2.2.2
  subst eT
  refine ⟨_, _, ?_, hrun, hended, _, _, rfl, ⟨N, hq⟩, ⟨_, rfl⟩, hW, hsame.mono hc hs⟩
  have hm' : T.vm.method? m = some meth := X.method'
  have hn : narrow .int (.int z) = .int z := rfl
  have hx := B.1
  have hret := B.2.2.2.2.2.2.1
  have hd' := B.d hd
  show Steps p.tables e below (T.setTop { method := m, pc := pc, locals := Ls, stack := _ :: rest, locked := none }) _
  jvm_step X.here [X.here.top, hx, hd', hm', hret, hn]
  first | (intro acts; rw [hr _ acts rfl rfl rfl]) | rw [hr _ _ rfl rfl rfl]
  exact Steps.refl _
theorem Goes.retL {z : Int64} (S : Sd p l e R s m args below meth c T h n0 cells slots) (B : Base p s m meth c Z y0 bytes0 maxL0 (some .long)) (hd : decode bytes0 pc = .ok (.lreturn, 1)) (hc : cells ≤ rc) (hs : slots ≤ rs) (hq : Q (some (.long z)) h) :
    Goes p.tables e below (Fine s n0 Q rc rs) T (mkF m pc Ls (.long z :: rest)) := by
  obtain ⟨locs, X, eT, N, -⟩ := S
  obtain ⟨fs, hr, hrun, hended, hW, hsame⟩ := X.leave (v := some (.long z)) (fun h => by rw [B.2.2.2.2.2.2.1] at h; cases h) B.2.2.2.2.2.2.2
  subst eT
  refine ⟨_, _, ?_, hrun, hended, _, _, rfl, ⟨N, hq⟩, ⟨_, rfl⟩, hW, hsame.mono hc hs⟩
  have hm' : T.vm.method? m = some meth := X.method'
  have hx := B.1
  have hret := B.2.2.2.2.2.2.1
  have hd' := B.d hd
  show Steps p.tables e below (T.setTop { method := m, pc := pc, locals := Ls, stack := _ :: rest, locked := none }) _
  jvm_step X.here [X.here.top, hx, hd', hm', hret, narrow]
  first | (intro acts; rw [hr _ acts rfl rfl rfl]) | rw [hr _ _ rfl rfl rfl]
  exact Steps.refl _
theorem Goes.retA {b : Addr} {t : FieldType} (S : Sd p l e R s m args below meth c T h n0 cells slots) (B : Base p s m meth c Z y0 bytes0 maxL0 (some t)) (ht : t.isReference = true) (hd : decode bytes0 pc = .ok (.areturn, 1)) (hc : cells ≤ rc) (hs : slots ≤ rs) (hq : Q (some (.ref b)) h) :
    Goes p.tables e below (Fine s n0 Q rc rs) T (mkF m pc Ls (.ref b :: rest)) := by
  obtain ⟨locs, X, eT, N, -⟩ := S
  obtain ⟨fs, hr, hrun, hended, hW, hsame⟩ := X.leave (v := some (.ref b)) (fun h => by rw [B.2.2.2.2.2.2.1] at h; cases h) B.2.2.2.2.2.2.2
  subst eT
  refine ⟨_, _, ?_, hrun, hended, _, _, rfl, ⟨N, hq⟩, ⟨_, rfl⟩, hW, hsame.mono hc hs⟩
  have hm' : T.vm.method? m = some meth := X.method'
  have hx := B.1
  have hret := B.2.2.2.2.2.2.1
  have hd' := B.d hd
  show Steps p.tables e below (T.setTop { method := m, pc := pc, locals := Ls, stack := _ :: rest, locked := none }) _
  jvm_step X.here [X.here.top, hx, hd', hm', hret, Value.isRef, ht]
  first | (intro acts; rw [hr _ acts rfl rfl rfl]) | rw [hr _ _ rfl rfl rfl]
  exact Steps.refl _
end Ends
/-! fields and objects -/
theorem Goes.getF {O n d : String} {index : Nat} {a : Addr} {v : Value} (S : Sd p l e R s m args below meth c T h n0 cells slots) (B : Base p s m meth c Z y0 bytes0 maxL0 ret0) (w : (Cond.fieldLink y0.cls index O n d).before a0 Z = true) (F : Fld Z h a O n d v) (hd : decode bytes0 pc = .ok (.getfield index, 3))
    (k : ∀ T', Sd p l e R s m args below meth c T' h n0 cells slots → Goes p.tables e below Φ T' (mkF m (pc + 3) Ls (v :: rest))) : Goes p.tables e below Φ T (mkF m pc Ls (.ref a :: rest)) := by
  obtain ⟨locs, X, eT, N, hn⟩ := S
  obtain ⟨T', X', e', stp⟩ := RoadKit.getF X B.1 B.2.1 B.2.2.2.2.1 (host := "") (Or.inl w) Via.refl eT F (g := mkF m pc Ls (.ref a :: rest)) rfl rfl (B.d hd)
  exact Goes.go stp (k T' ⟨locs, X', e', N, hn⟩)
theorem Goes.putF {O n d C : String} {index kk : Nat} {ty : FieldType} {a : Addr} {v v' old : Value} (S : Sd p l e R s m args below meth c T h n0 cells slots) (B : Base p s m meth c Z y0 bytes0 maxL0 ret0) (w : (Cond.fieldLink y0.cls index O n d).before a0 Z = true) (F : Fld Z h a O n d old) (E : Exa Z h a C)
    (L : (Cond.lays C O n d).before a0 Z = true ∨ ((Cond.laysFinal C O n d).before a0 Z = true ∧ y0.cls = O ∧ y0.name = "<init>")) (wi : (Cond.instantiable C kk).before a0 Z = true) (hty : parseFieldDescriptor d = some ty) (hnr : narrow ty v = v') (hf : fits ty v' = true) (ga : n0 ≤ a) (hd : decode bytes0 pc = .ok (.putfield index, 3))
    (k : ∀ T' h', Sd p l e R s m args below meth c T' h' n0 cells slots → Wr h h' a (RoadKit.slotOf Z O n d) v' → Goes p.tables e below Φ T' (mkF m (pc + 3) Ls rest)) : Goes p.tables e below Φ T (mkF m pc Ls (v :: .ref a :: rest)) := by
  obtain ⟨locs, X, eT, N, hn⟩ := S
  obtain ⟨T', h', X', e', W, stp⟩ := RoadKit.putFN X B.1 B.2.1 B.2.2.2.2.1 w Via.refl eT F E (L.imp id fun q => ⟨q.1, q.2.1, B.2.2.2.2.2.1.trans q.2.2⟩) wi hty hnr hf (g := mkF m pc Ls (v :: .ref a :: rest)) rfl rfl (B.d hd)
  exact Goes.go stp (k T' h' ⟨_, X', e', Fr.snoc X' N ga, hn⟩ W)
theorem Goes.newO {C : String} {index nn : Nat} (S : Sd p l e R s m args below meth c T h n0 cells slots) (B : Base p s m meth c Z y0 bytes0 maxL0 ret0) (w : (Cond.classLink y0.cls index C).before a0 Z = true) (wi : (Cond.instantiable C nn).before a0 Z = true) (wz : (Cond.initialized C).before a0 Z = true) (hd : decode bytes0 pc = .ok (.new index, 3)) (hc : cells + 1 ≤ R.cells) (hl : slots + nn ≤ R.slots)
    (k : ∀ T' h' b, Sd p l e R s m args below meth c T' h' n0 (cells + 1) (slots + nn) → Ext h h' → b = h.size → n0 ≤ b → Exa Z h' b C → (∀ {O nm d : String} {ty : FieldType}, Laid Z a0 C O nm d → parseFieldDescriptor d = some ty → Fld Z h' b O nm d (defaultValue ty)) → Goes p.tables e below Φ T' (mkF m (pc + 3) Ls (.ref b :: st))) :
    Goes p.tables e below Φ T (mkF m pc Ls st) := by
  have hle := S.le
  obtain ⟨locs, X, eT, N, hn⟩ := S
  obtain ⟨T', h', X', e', E, A, D, -, stp⟩ := RoadKit.newO X B.1 B.2.1 B.2.2.2.2.1 w wi wz eT (g := mkF m pc Ls st) rfl (B.d hd) hc hl
  exact Goes.go stp (k T' h' h.size ⟨locs, X', e', N, hn⟩ E rfl hle A D)
theorem Goes.initO {index : Nat} {a : Addr} {W : Nat} (S : Sd p l e R s m args below meth c T h n0 cells slots) (B : Base p s m meth c Z y0 bytes0 maxL0 ret0) (w1 : (Cond.methodLink y0.cls index Lib.objectInit).before a0 Z = true) (w2 : (Cond.instanceMethod Lib.objectInit).before a0 Z = true) (w3 : (Cond.code Lib.objectInit ⟨#[0xb1]⟩ 1 none).before a0 Z = true)
    (hd : decode bytes0 pc = .ok (.invokespecial index, 3)) (hsz : Ls.size = maxL0) (hf : 1 ≤ R.frames) (hW : 2 * 0 + (rest.map fun v => v.category).sum ≤ W) (hl : W + 12 ≤ R.locals)
    (k : ∀ T', Sd p l e R s m args below meth c T' h n0 cells slots → Goes p.tables e below Φ T' (mkF m (pc + 3) Ls rest)) : Goes p.tables e below Φ T (mkF m pc Ls (.ref a :: rest)) := by
  obtain ⟨locs, X, eT, N, hn⟩ := S
  obtain ⟨T', X', e', stp⟩ := RoadKit.initO X B.1 B.2.1 B.2.2.2.2.1 w1 w2 w3 eT (g := mkF m pc Ls (.ref a :: rest)) rfl (by rw [B.2.2.2.1]; exact hsz) rfl (B.d hd) hf hW hl
  exact Goes.go stp (k T' ⟨locs, X', e', N, hn⟩)
theorem Goes.ldcI {index : Nat} {v : Int32} (S : Sd p l e R s m args below meth c T h n0 cells slots) (B : Base p s m meth c Z y0 bytes0 maxL0 ret0) (w : (Cond.constant y0.cls index v).before a0 Z = true) (hd : decode bytes0 pc = .ok (.ldc index, 2)) (k : Goes p.tables e below Φ T (mkF m (pc + 2) Ls (.int v :: st))) : Goes p.tables e below Φ T (mkF m pc Ls st) := by
  obtain ⟨locs, X, eT, N, hn⟩ := S
  exact Goes.go (X.ldcInt B.1 B.2.2.2.2.1 (mvT B.2.1 w) (g := mkF m pc Ls st) rfl (B.d hd)) k
theorem Goes.ldcL {index : Nat} {v : Int64} (S : Sd p l e R s m args below meth c T h n0 cells slots) (B : Base p s m meth c Z y0 bytes0 maxL0 ret0) (w : (Cond.constantLong y0.cls index v).before a0 Z = true) (hd : decode bytes0 pc = .ok (.ldc2_w index, 3)) (k : Goes p.tables e below Φ T (mkF m (pc + 3) Ls (.long v :: st))) : Goes p.tables e below Φ T (mkF m pc Ls st) := by
  obtain ⟨locs, X, eT, N, hn⟩ := S
  exact Goes.go (X.ldc2Long B.1 B.2.2.2.2.1 (mvT B.2.1 w) (g := mkF m pc Ls st) rfl (B.d hd)) k
/-! calls -/
section Calls
variable {y : MethodName} {bytes : ByteArray} {maxL : Nat} {ret : Option FieldType} {rm : Room} {index W : Nat} {argsL : List Value} {Q : Option Value → Heap → Prop}
theorem Con.back {as' : Array Value} {len : Nat} (C : Con l Z y bytes maxL ret rm as' h n0 Q) (hn : n0 ≤ h.size) (hZ : Z.Warmed39 s.vm) (wc : (Cond.code y bytes maxL ret).before a0 Z = true) (wz : (Cond.initialized y.cls).before a0 Z = true) (hf : rm.frames + 1 ≤ R.frames) (hl : W + (maxL + 11) + rm.locals ≤ R.locals) :
    Back l R p e below s args y len W (fun A a => a = as' ∧ A.U.heap = h ∧ A.cells + rm.cells ≤ R.cells ∧ A.slots + rm.slots ≤ R.slots)
      (fun A _ v B => ∃ L, (Fr n0 L ∧ Q v B.U.heap) ∧ B.locs = A.locs ++ L ∧ B.cells = A.cells + rm.cells ∧ B.slots = A.slots + rm.slots) :=
  backOf (Q := fun v h L => Fr n0 L ∧ Q v h) (C hn []) hZ wc wz hf hl
theorem Goes.callS (S : Sd p l e R s m args below meth c T h n0 cells slots) (B : Base p s m meth c Z y0 bytes0 maxL0 ret0) (C : Con l Z y bytes maxL ret rm argsL.toArray h n0 Q) (wl : (Cond.methodLink y0.cls index y).before a0 Z = true) (ws : (Cond.static y).before a0 Z = true) (wi : (Cond.initialized y.cls).before a0 Z = true) (wc : (Cond.code y bytes maxL ret).before a0 Z = true)
    (hy : y.cls ≠ "java/lang/invoke/MethodHandle" ∧ y.cls ≠ "java/lang/invoke/VarHandle") (hf : rm.frames + 1 ≤ R.frames) (hlo : W + (maxL + 11) + rm.locals ≤ R.locals) (hc : cells + rm.cells ≤ R.cells) (hs : slots + rm.slots ≤ R.slots) (hsz : Ls.size = maxL0)
    (hlen : ∀ sig, parseMethodDescriptor y.desc = some sig → argsL.length = sig.parameters.length) (hst : st = argsL.reverse ++ rest) (hW : 2 * 0 + (rest.map fun v => v.category).sum ≤ W) (hd : decode bytes0 pc = .ok (.invokestatic index, 3))
    (k : ∀ v T' h', Sd p l e R s m args below meth c T' h' n0 (cells + rm.cells) (slots + rm.slots) → Q v h' → Goes p.tables e below Φ T' (mkF m (pc + 3) Ls (v.toList ++ rest))) : Goes p.tables e below Φ T (mkF m pc Ls st) := by
  have hle := S.le
  obtain ⟨locs, X, eT, N, hn⟩ := S
  subst hst
  obtain ⟨v, _, ⟨T', L', k', n'⟩, -, X', ⟨Lc, ⟨hN, hQ⟩, l1, y1, z1⟩, stp⟩ := Jvm.LawKit.callS X B.1 (y := y) B.2.2.2.2.1 (mvT B.2.1 wl) (mvT B.2.1 ws) (mvT B.2.1 wi) (mvT B.2.1 wc) hy (Con.back (W := W) C hle B.2.1 wc wi hf hlo) (g := mkF m pc Ls (argsL.reverse ++ rest)) rfl (by rw [B.2.2.2.1]; exact hsz) (argsL := argsL) (rest := rest) hlen rfl hW (B.d hd) (fun _ _ => ⟨rfl, eT, hc, hs⟩)
  dsimp only [Pt.U, Pt.locs, Pt.cells, Pt.slots] at X' l1 y1 z1 stp hQ
  subst l1 y1 z1
  exact Goes.go stp (k v T' T'.heap ⟨_, X', rfl, N.app hN, hn⟩ hQ)
theorem Goes.callI {b : Addr} (S : Sd p l e R s m args below meth c T h n0 cells slots) (B : Base p s m meth c Z y0 bytes0 maxL0 ret0) (C : Con l Z y bytes maxL none rm (.ref b :: argsL).toArray h n0 Q) (wl : (Cond.methodLink y0.cls index y).before a0 Z = true) (wim : (Cond.instanceMethod y).before a0 Z = true) (wi : (Cond.initialized y.cls).before a0 Z = true) (wc : (Cond.code y bytes maxL none).before a0 Z = true)
    (hy : y.cls ≠ "java/lang/invoke/MethodHandle" ∧ y.cls ≠ "java/lang/invoke/VarHandle") (hni : y.name = "<init>") (hf : rm.frames + 1 ≤ R.frames) (hlo : W + (maxL + 11) + rm.locals ≤ R.locals) (hc : cells + rm.cells ≤ R.cells) (hs : slots + rm.slots ≤ R.slots) (hsz : Ls.size = maxL0)
    (hlen : ∀ sig, parseMethodDescriptor y.desc = some sig → argsL.length = sig.parameters.length) (hst : st = argsL.reverse ++ .ref b :: rest) (hW : 2 * 0 + (rest.map fun v => v.category).sum ≤ W) (hd : decode bytes0 pc = .ok (.invokespecial index, 3))
    (k : ∀ v T' h', Sd p l e R s m args below meth c T' h' n0 (cells + rm.cells) (slots + rm.slots) → Q v h' → Goes p.tables e below Φ T' (mkF m (pc + 3) Ls (v.toList ++ rest))) : Goes p.tables e below Φ T (mkF m pc Ls st) := by
  have hle := S.le
  obtain ⟨locs, X, eT, N, hn⟩ := S
  subst hst
  obtain ⟨v, _, ⟨T', L', k', n'⟩, -, X', ⟨Lc, ⟨hN, hQ⟩, l1, y1, z1⟩, stp⟩ := X.specialBack B.1 (y := y) hni B.2.2.2.2.1 (mvT B.2.1 wl) (mvT B.2.1 wim) (mvT B.2.1 wc) hy (Con.back (W := W) C hle B.2.1 wc wi hf hlo) (g := mkF m pc Ls (argsL.reverse ++ .ref b :: rest)) rfl (by rw [B.2.2.2.1]; exact hsz) (Steps.refl _) (a := b) (argsL := argsL) (rest := rest) hlen rfl hW (B.d hd) (fun _ _ => ⟨rfl, eT, hc, hs⟩)
  dsimp only [Pt.U, Pt.locs, Pt.cells, Pt.slots] at X' l1 y1 z1 stp hQ
  subst l1 y1 z1
  exact Goes.go (fun t q => stp.trans q) (k v T' T'.heap ⟨_, X', rfl, N.app hN, hn⟩ hQ)
theorem Goes.callV {b : Addr} {K : String} (S : Sd p l e R s m args below meth c T h n0 cells slots) (B : Base p s m meth c Z y0 bytes0 maxL0 ret0) (C : Con l Z y bytes maxL ret rm (.ref b :: argsL).toArray h n0 Q) (E : Exa Z h b K) (wl : (Cond.methodLink y0.cls index y).before a0 Z = true) (wd : (Cond.declares y).before a0 Z = true) (wsel : (Cond.selects K y y).before a0 Z = true) (wim : (Cond.instanceMethod y).before a0 Z = true) (wi : (Cond.initialized y.cls).before a0 Z = true) (wc : (Cond.code y bytes maxL ret).before a0 Z = true)
    (hy : y.cls ≠ "java/lang/invoke/MethodHandle" ∧ y.cls ≠ "java/lang/invoke/VarHandle") (hf : rm.frames + 1 ≤ R.frames) (hlo : W + (maxL + 11) + rm.locals ≤ R.locals) (hc : cells + rm.cells ≤ R.cells) (hs : slots + rm.slots ≤ R.slots) (hsz : Ls.size = maxL0)
    (hlen : ∀ sig, parseMethodDescriptor y.desc = some sig → argsL.length = sig.parameters.length) (hst : st = argsL.reverse ++ .ref b :: rest) (hW : 2 * 0 + (rest.map fun v => v.category).sum ≤ W) (hd : decode bytes0 pc = .ok (.invokevirtual index, 3))
    (k : ∀ v T' h', Sd p l e R s m args below meth c T' h' n0 (cells + rm.cells) (slots + rm.slots) → Q v h' → Goes p.tables e below Φ T' (mkF m (pc + 3) Ls (v.toList ++ rest))) : Goes p.tables e below Φ T (mkF m pc Ls st) := by
  have hle := S.le
  obtain ⟨locs, X, eT, N, hn⟩ := S
  subst hst
  obtain ⟨cq, kq, qa, qb, qc⟩ := isOf B.2.1 eT E
  obtain ⟨v, _, ⟨T', L', k', n'⟩, -, X', ⟨Lc, ⟨hN, hQ⟩, l1, y1, z1⟩, stp⟩ := X.virtualBack B.1 (y := y) (z := y) B.2.2.2.2.1 (mvT B.2.1 wl) (mvT B.2.1 wd) (notFace_of_selects (args := #[]) (mvT B.2.1 wsel)) (mvT B.2.1 wsel) (mvT B.2.1 wim) hy (Con.back (W := W) C hle B.2.1 wc wi hf hlo) qa qc (g := mkF m pc Ls (argsL.reverse ++ .ref b :: rest)) rfl (by rw [B.2.2.2.1]; exact hsz) (Steps.refl _) (argsL := argsL) (rest := rest) hlen rfl hW (B.d hd) (fun _ _ => ⟨rfl, eT, hc, hs⟩)
  dsimp only [Pt.U, Pt.locs, Pt.cells, Pt.slots] at X' l1 y1 z1 stp hQ
  subst l1 y1 z1
  exact Goes.go (fun t q => stp.trans q) (k v T' T'.heap ⟨_, X', rfl, N.app hN, hn⟩ hQ)
theorem Goes.callP {b : Addr} {K : String} (S : Sd p l e R s m args below meth c T h n0 cells slots) (B : Base p s m meth c Z y0 bytes0 maxL0 ret0) (C : Con l Z y bytes maxL ret rm (.ref b :: argsL).toArray h n0 Q) (E : Exa Z h b K) (wl : (Cond.methodLink y0.cls index y).before a0 Z = true) (wp : (Cond.privateMethod y).before a0 Z = true) {kk : Nat} (wk : (Cond.instantiable y.cls kk).before a0 Z = true) (wim : (Cond.instanceMethod y).before a0 Z = true) (wi : (Cond.initialized y.cls).before a0 Z = true) (wc : (Cond.code y bytes maxL ret).before a0 Z = true)
    (hy : y.cls ≠ "java/lang/invoke/MethodHandle" ∧ y.cls ≠ "java/lang/invoke/VarHandle") (hf : rm.frames + 1 ≤ R.frames) (hlo : W + (maxL + 11) + rm.locals ≤ R.locals) (hc : cells + rm.cells ≤ R.cells) (hs : slots + rm.slots ≤ R.slots) (hsz : Ls.size = maxL0)
    (hlen : ∀ sig, parseMethodDescriptor y.desc = some sig → argsL.length = sig.parameters.length) (hst : st = argsL.reverse ++ .ref b :: rest) (hW : 2 * 0 + (rest.map fun v => v.category).sum ≤ W) (hd : decode bytes0 pc = .ok (.invokevirtual index, 3))
    (k : ∀ v T' h', Sd p l e R s m args below meth c T' h' n0 (cells + rm.cells) (slots + rm.slots) → Q v h' → Goes p.tables e below Φ T' (mkF m (pc + 3) Ls (v.toList ++ rest))) : Goes p.tables e below Φ T (mkF m pc Ls st) := by
  have hle := S.le
  obtain ⟨locs, X, eT, N, hn⟩ := S
  subst hst
  obtain ⟨cq, q1, q2⟩ := E.cell
  have hpr : s.PrivateAt y := Cond.privateMethod_at (mvP B.2.1 wp (args := #[]))
  have wsel : (Cond.selects y.cls y y).before args s = true := by
    obtain ⟨ci, ki, i1, i2, i3, i4, -⟩ := Cond.instantiable_spec (mvT B.2.1 wk (args := args))
    exact selects_self_of_private i1 i2 (Bool.or_eq_false_iff.mp i4).1 hpr (mvT B.2.1 wim) hy
  obtain ⟨v, _, ⟨T', L', k', n'⟩, -, X', ⟨Lc, ⟨hN, hQ⟩, l1, y1, z1⟩, stp⟩ := X.privateBack B.1 (y := y) B.2.2.2.2.1 (mvT B.2.1 wl) (mvT B.2.1 wim) wsel hpr (mvT B.2.1 wc) hy (Con.back (W := W) C hle B.2.1 wc wi hf hlo) (g := mkF m pc Ls (argsL.reverse ++ .ref b :: rest)) rfl (by rw [B.2.2.2.1]; exact hsz) (Steps.refl _) (a := b) (by rw [eT]; exact q1) q2 (argsL := argsL) (rest := rest) hlen rfl hW (B.d hd) (fun _ _ => ⟨rfl, eT, hc, hs⟩)
  dsimp only [Pt.U, Pt.locs, Pt.cells, Pt.slots] at X' l1 y1 z1 stp hQ
  subst l1 y1 z1
  exact Goes.go (fun t q => stp.trans q) (k v T' T'.heap ⟨_, X', rfl, N.app hN, hn⟩ hQ)
end Calls
/-! arrays: what lies at each place, as a function -/
def Ary (Z : State) (h : Heap) (a : Addr) (ty : FieldType) (n : Nat) (f : Nat → Value) : Prop := ∃ c : Cell, Arr Z h a c ty ∧ c.slots.size = n ∧ n < 2 ^ 31 ∧ ∀ i, i < n → c.slots[i]? = some (f i)
def upd {α : Type} (f : Nat → α) (i : Nat) (v : α) : Nat → α := fun k => if k = i then v else f k
theorem upd_int (g : Nat → Int32) (k : Nat) (x : Int32) : upd (fun i => Value.int (g i)) k (.int x) = fun i => .int (upd g k x i) := by
  funext i
  simp only [upd]
  split <;> rfl
theorem upd_long (g : Nat → Int64) (k : Nat) (x : Int64) : upd (fun i => Value.long (g i)) k (.long x) = fun i => .long (upd g k x i) := by
  funext i
  simp only [upd]
  split <;> rfl
section Arrays
variable {a b : Addr} {ty : FieldType} {n : Nat} {f : Nat → Value} {h' : Heap} {j : Int32} {v : Value} {sl : Nat} {ws : List Addr}
theorem Ary.lt (A : Ary Z h a ty n f) : a < h.size := by obtain ⟨c, A, -⟩ := A; exact A.lt
theorem Ary.ext (A : Ary Z h a ty n f) (E : Ext h h') : Ary Z h' a ty n f := by obtain ⟨c, A, r⟩ := A; exact ⟨c, A.ext E, r⟩
theorem Ary.other (A : Ary Z h b ty n f) (W : Wr h h' a sl v) (q : b ≠ a) : Ary Z h' b ty n f := by obtain ⟨c, A, r⟩ := A; exact ⟨c, A.other W q, r⟩
theorem Ary.keep (A : Ary Z h a ty n f) (K : Keep h h' ws) (q : a ∉ ws) : Ary Z h' a ty n f := by obtain ⟨c, A, r⟩ := A; exact ⟨c, ⟨K.2.1 a c A.1 q, A.2⟩, r⟩
theorem Ary.cast {g : Nat → Value} (A : Ary Z h a ty n f) (q : ∀ i, i < n → f i = g i) : Ary Z h a ty n g := by obtain ⟨c, A, r1, r2, r3⟩ := A; exact ⟨c, A, r1, r2, fun i hi => by rw [r3 i hi, q i hi]⟩
theorem Ary.new {z : Int32} {k : ClassId} (A : Arr Z h a (newA k ty z) ty) (q : ¬ z < 0) : Ary Z h a ty z.toNatClampNeg (fun _ => defaultValue ty) :=
  ⟨_, A, sz_new _ _ _, (back32 q).2, fun i hi => by simp [newA, hi]⟩
theorem Ary.set {i : Nat} (A : Ary Z h a ty n f) (W : Wr h h' a i v) (hi : i < n) : Ary Z h' a ty n (upd f i v) := by
  obtain ⟨c, A, r1, r2, r3⟩ := A
  refine ⟨_, A.same W, by rw [sz_set]; exact r1, r2, fun k hk => ?_⟩
  by_cases e : k = i
  · subst e
    simp [upd, Cell.setSlot, r1, hi]
  · have e' : i ≠ k := fun q => e q.symm
    simp only [upd, if_neg e, Cell.setSlot]
    rw [Array.getElem?_setIfInBounds_ne e']
    exact r3 k hk
theorem Goes.newP {aty : ArrayType} {z : Int32} {cap : Nat} (S : Sd p l e R s m args below meth c T h n0 cells slots) (B : Base p s m meth c Z y0 bytes0 maxL0 ret0) (w : (Cond.arrayClass (newarray.typeOf aty)).before a0 Z = true) (hd : decode bytes0 pc = .ok (.newarray aty, 2)) (hz : ¬ z < 0) (hcap : z.toNatClampNeg ≤ cap) (hb : cap * 8 ≤ 536870912) (hc : cells + 1 ≤ R.cells) (hl : slots + cap ≤ R.slots)
    (k : ∀ T' h' b, Sd p l e R s m args below meth c T' h' n0 (cells + 1) (slots + cap) → Ext h h' → b = h.size → n0 ≤ b → Ary Z h' b (newarray.typeOf aty) z.toNatClampNeg (fun _ => defaultValue (newarray.typeOf aty)) → Goes p.tables e below Φ T' (mkF m (pc + 2) Ls (.ref b :: rest))) :
    Goes p.tables e below Φ T (mkF m pc Ls (.int z :: rest)) := by
  have hle := S.le
  obtain ⟨locs, X, eT, N, hn⟩ := S
  obtain ⟨T', h', k', X', e', E, A, stp⟩ := RoadKit.newP X B.1 B.2.1 w eT (g := mkF m pc Ls (.int z :: rest)) rfl (B.d hd) rfl hz hcap hb hc hl
  exact Goes.go stp (k T' h' h.size ⟨locs, X', e', N, hn⟩ E rfl hle (Ary.new A hz))
theorem Goes.iaload (S : Sd p l e R s m args below meth c T h n0 cells slots) (B : Base p s m meth c Z y0 bytes0 maxL0 ret0) (A : Ary Z h a .int n f) (q0 : ¬ j < 0) (q1 : j.toNatClampNeg < n) (hd : decode bytes0 pc = .ok (.iaload, 1)) (hv : f j.toNatClampNeg = v) (k : Goes p.tables e below Φ T (mkF m (pc + 1) Ls (v :: rest))) : Goes p.tables e below Φ T (mkF m pc Ls (.int j :: .ref a :: rest)) := by
  obtain ⟨locs, X, eT, N, hn⟩ := S
  obtain ⟨cl, A, r1, r2, r3⟩ := A
  exact Goes.go (X.iaload B.1 (j := j) (v := v) (by rw [eT]; exact A.1) (State.isArrayOf_alike B.2.1.alike A.2.1) A.2.2 (by rw [r1]; exact fun z => z.elim q0 (Nat.not_le.mpr q1)) (by rw [r3 _ q1, hv]) (g := mkF m pc Ls (.int j :: .ref a :: rest)) rfl rfl (B.d hd)) k
theorem Goes.laload (S : Sd p l e R s m args below meth c T h n0 cells slots) (B : Base p s m meth c Z y0 bytes0 maxL0 ret0) (A : Ary Z h a .long n f) (q0 : ¬ j < 0) (q1 : j.toNatClampNeg < n) (hd : decode bytes0 pc = .ok (.laload, 1)) (hv : f j.toNatClampNeg = v) (k : Goes p.tables e below Φ T (mkF m (pc + 1) Ls (v :: rest))) : Goes p.tables e below Φ T (mkF m pc Ls (.int j :: .ref a :: rest)) := by
  obtain ⟨locs, X, eT, N, hn⟩ := S
  obtain ⟨cl, A, r1, r2, r3⟩ := A
  exact Goes.go (X.laload B.1 (j := j) (v := v) (by rw [eT]; exact A.1) (State.isArrayOf_alike B.2.1.alike A.2.1) A.2.2 (by rw [r1]; exact fun z => z.elim q0 (Nat.not_le.mpr q1)) (by rw [r3 _ q1, hv]) (g := mkF m pc Ls (.int j :: .ref a :: rest)) rfl rfl (B.d hd)) k
theorem Goes.baload (S : Sd p l e R s m args below meth c T h n0 cells slots) (B : Base p s m meth c Z y0 bytes0 maxL0 ret0) (A : Ary Z h a .byte n f) (q0 : ¬ j < 0) (q1 : j.toNatClampNeg < n) (hd : decode bytes0 pc = .ok (.baload, 1)) (hv : f j.toNatClampNeg = v) (k : Goes p.tables e below Φ T (mkF m (pc + 1) Ls (v :: rest))) : Goes p.tables e below Φ T (mkF m pc Ls (.int j :: .ref a :: rest)) := by
  obtain ⟨locs, X, eT, N, hn⟩ := S
  obtain ⟨cl, A, r1, r2, r3⟩ := A
  exact Goes.go (X.baloadBytes B.1 (j := j) (v := v) (by rw [eT]; exact A.1) (State.isArrayOf_alike B.2.1.alike A.2.1) A.2.2 (by rw [r1]; exact fun z => z.elim q0 (Nat.not_le.mpr q1)) (by rw [r3 _ q1, hv]) (g := mkF m pc Ls (.int j :: .ref a :: rest)) rfl rfl (B.d hd)) k
theorem Goes.zaload (S : Sd p l e R s m args below meth c T h n0 cells slots) (B : Base p s m meth c Z y0 bytes0 maxL0 ret0) (A : Ary Z h a .boolean n f) (q0 : ¬ j < 0) (q1 : j.toNatClampNeg < n) (hd : decode bytes0 pc = .ok (.baload, 1)) (hv : f j.toNatClampNeg = v) (k : Goes p.tables e below Φ T (mkF m (pc + 1) Ls (v :: rest))) : Goes p.tables e below Φ T (mkF m pc Ls (.int j :: .ref a :: rest)) := by
  obtain ⟨locs, X, eT, N, hn⟩ := S
  obtain ⟨cl, A, r1, r2, r3⟩ := A
  exact Goes.go (X.baloadBooleans B.1 (j := j) (v := v) (by rw [eT]; exact A.1) (State.isArrayOf_alike B.2.1.alike A.2.1) A.2.2 (by rw [r1]; exact fun z => z.elim q0 (Nat.not_le.mpr q1)) (by rw [r3 _ q1, hv]) (g := mkF m pc Ls (.int j :: .ref a :: rest)) rfl rfl (B.d hd)) k
theorem Goes.alen (S : Sd p l e R s m args below meth c T h n0 cells slots) (B : Base p s m meth c Z y0 bytes0 maxL0 ret0) (A : Ary Z h a ty n f) {z : Int32} (hz : n.toInt32 = z) (hd : decode bytes0 pc = .ok (.arraylength, 1)) (k : Goes p.tables e below Φ T (mkF m (pc + 1) Ls (.int z :: rest))) : Goes p.tables e below Φ T (mkF m pc Ls (.ref a :: rest)) := by
  obtain ⟨locs, X, eT, N, hn⟩ := S
  obtain ⟨cl, A, r1, r2, r3⟩ := A
  subst r1 hz
  exact Goes.go (X.arraylength B.1 (by rw [eT]; exact A.1) (State.isArrayOf_alike B.2.1.alike A.2.1) (g := mkF m pc Ls (.ref a :: rest)) rfl rfl (B.d hd)) k
theorem Goes.iastore {x : Int32} (S : Sd p l e R s m args below meth c T h n0 cells slots) (B : Base p s m meth c Z y0 bytes0 maxL0 ret0) (A : Ary Z h a .int n f) (q0 : ¬ j < 0) (q1 : j.toNatClampNeg < n) (ga : n0 ≤ a) (hd : decode bytes0 pc = .ok (.iastore, 1))
    (k : ∀ T' h', Sd p l e R s m args below meth c T' h' n0 cells slots → Wr h h' a j.toNatClampNeg (.int x) → Ary Z h' a .int n (upd f j.toNatClampNeg (.int x)) → Goes p.tables e below Φ T' (mkF m (pc + 1) Ls rest)) : Goes p.tables e below Φ T (mkF m pc Ls (.int x :: .int j :: .ref a :: rest)) := by
  obtain ⟨locs, X, eT, N, hn⟩ := S
  have A' := A
  obtain ⟨cl, A, r1, r2, r3⟩ := A
  obtain ⟨T', h', X', e', W, stp⟩ := RoadKit.stI X B.1 B.2.1 eT A (j := j) (by rw [r1]; exact fun z => z.elim q0 (Nat.not_le.mpr q1)) (g := mkF m pc Ls (.int x :: .int j :: .ref a :: rest)) rfl rfl (B.d hd)
  exact Goes.go stp (k T' h' ⟨_, X', e', Fr.snoc X' N ga, hn⟩ W (A'.set W q1))
theorem Goes.lastore {x : Int64} (S : Sd p l e R s m args below meth c T h n0 cells slots) (B : Base p s m meth c Z y0 bytes0 maxL0 ret0) (A : Ary Z h a .long n f) (q0 : ¬ j < 0) (q1 : j.toNatClampNeg < n) (ga : n0 ≤ a) (hd : decode bytes0 pc = .ok (.lastore, 1))
    (k : ∀ T' h', Sd p l e R s m args below meth c T' h' n0 cells slots → Wr h h' a j.toNatClampNeg (.long x) → Ary Z h' a .long n (upd f j.toNatClampNeg (.long x)) → Goes p.tables e below Φ T' (mkF m (pc + 1) Ls rest)) : Goes p.tables e below Φ T (mkF m pc Ls (.long x :: .int j :: .ref a :: rest)) := by
  obtain ⟨locs, X, eT, N, hn⟩ := S
  have A' := A
  obtain ⟨cl, A, r1, r2, r3⟩ := A
  obtain ⟨T', h', X', e', W, stp⟩ := RoadKit.stJ X B.1 B.2.1 eT A (j := j) (by rw [r1]; exact fun z => z.elim q0 (Nat.not_le.mpr q1)) (g := mkF m pc Ls (.long x :: .int j :: .ref a :: rest)) rfl rfl (B.d hd)
  exact Goes.go stp (k T' h' ⟨_, X', e', Fr.snoc X' N ga, hn⟩ W (A'.set W q1))
theorem Goes.bastore {x : Int32} (S : Sd p l e R s m args below meth c T h n0 cells slots) (B : Base p s m meth c Z y0 bytes0 maxL0 ret0) (A : Ary Z h a .byte n f) (q0 : ¬ j < 0) (q1 : j.toNatClampNeg < n) (ga : n0 ≤ a) (hd : decode bytes0 pc = .ok (.bastore, 1))
    (k : ∀ T' h', Sd p l e R s m args below meth c T' h' n0 cells slots → Wr h h' a j.toNatClampNeg (.int (nar .byte x)) → Ary Z h' a .byte n (upd f j.toNatClampNeg (.int (nar .byte x))) → Goes p.tables e below Φ T' (mkF m (pc + 1) Ls rest)) : Goes p.tables e below Φ T (mkF m pc Ls (.int x :: .int j :: .ref a :: rest)) := by
  obtain ⟨locs, X, eT, N, hn⟩ := S
  have A' := A
  obtain ⟨cl, A, r1, r2, r3⟩ := A
  obtain ⟨T', h', X', e', W, stp⟩ := RoadKit.stB X B.1 B.2.1 eT A (j := j) (by rw [r1]; exact fun z => z.elim q0 (Nat.not_le.mpr q1)) (g := mkF m pc Ls (.int x :: .int j :: .ref a :: rest)) rfl rfl (B.d hd)
  exact Goes.go stp (k T' h' ⟨_, X', e', Fr.snoc X' N ga, hn⟩ W (A'.set W q1))
theorem Goes.zastore {x : Int32} (S : Sd p l e R s m args below meth c T h n0 cells slots) (B : Base p s m meth c Z y0 bytes0 maxL0 ret0) (A : Ary Z h a .boolean n f) (q0 : ¬ j < 0) (q1 : j.toNatClampNeg < n) (ga : n0 ≤ a) (hd : decode bytes0 pc = .ok (.bastore, 1))
    (k : ∀ T' h', Sd p l e R s m args below meth c T' h' n0 cells slots → Wr h h' a j.toNatClampNeg (.int (nar .boolean x)) → Ary Z h' a .boolean n (upd f j.toNatClampNeg (.int (nar .boolean x))) → Goes p.tables e below Φ T' (mkF m (pc + 1) Ls rest)) : Goes p.tables e below Φ T (mkF m pc Ls (.int x :: .int j :: .ref a :: rest)) := by
  obtain ⟨locs, X, eT, N, hn⟩ := S
  have A' := A
  obtain ⟨cl, A, r1, r2, r3⟩ := A
  obtain ⟨T', h', X', e', W, stp⟩ := RoadKit.stZ X B.1 B.2.1 eT A (j := j) (by rw [r1]; exact fun z => z.elim q0 (Nat.not_le.mpr q1)) (g := mkF m pc Ls (.int x :: .int j :: .ref a :: rest)) rfl rfl (B.d hd)
  exact Goes.go stp (k T' h' ⟨_, X', e', Fr.snoc X' N ga, hn⟩ W (A'.set W q1))
end Arrays
end Lay
end Jvm.OwnKit
namespace Jvm.Pilot.@@N@@
open Jvm Jvm.ClassFile Sem Op Lib Jvm.Free Jvm.Stand Jvm.LawKit Jvm.RoadKit Jvm.OwnKit Bundle Jvm.Pilot.@@N@@.Jvm.D
theorem w0 {Z : State} {a0 : Array Value} (hw : ∀ d ∈ tables_1, d.before a0 Z = true) : ((Jvm.Cond.classLink "com/example/cormorant/cormorant/sim/ChannelCarriesPinLaw" (8 : Nat) "com/example/cormorant/cormorant/sim/Channel") : Jvm.Cond).before a0 Z = true := hw _ (List.mem_of_getElem? (i := 0) rfl)
theorem w1 {Z : State} {a0 : Array Value} (hw : ∀ d ∈ tables_1, d.before a0 Z = true) : ((Jvm.Cond.instantiable "com/example/cormorant/cormorant/sim/Channel" (4 : Nat)) : Jvm.Cond).before a0 Z = true := hw _ (List.mem_of_getElem? (i := 1) rfl)
theorem w2 {Z : State} {a0 : Array Value} (hw : ∀ d ∈ tables_1, d.before a0 Z = true) : ((Jvm.Cond.initialized "com/example/cormorant/cormorant/sim/Channel") : Jvm.Cond).before a0 Z = true := hw _ (List.mem_of_getElem? (i := 2) rfl)
theorem w3 {Z : State} {a0 : Array Value} (hw : ∀ d ∈ tables_1, d.before a0 Z = true) : ((Jvm.Cond.methodLink "com/example/cormorant/cormorant/sim/ChannelCarriesPinLaw" (15 : Nat) ({ cls := "com/example/cormorant/cormorant/sim/Channel", name := "<init>", desc := "()V" } : Jvm.MethodName)) : Jvm.Cond).before a0 Z = true := hw _ (List.mem_of_getElem? (i := 3) rfl)
theorem w4 {Z : State} {a0 : Array Value} (hw : ∀ d ∈ tables_1, d.before a0 Z = true) : ((Jvm.Cond.instanceMethod ({ cls := "com/example/cormorant/cormorant/sim/Channel", name := "<init>", desc := "()V" } : Jvm.MethodName)) : Jvm.Cond).before a0 Z = true := hw _ (List.mem_of_getElem? (i := 4) rfl)
theorem w5 {Z : State} {a0 : Array Value} (hw : ∀ d ∈ tables_1, d.before a0 Z = true) : ((Jvm.Cond.code ({ cls := "com/example/cormorant/cormorant/sim/Channel", name := "<init>", desc := "()V" } : Jvm.MethodName) prog_70_method_1_code (1 : Nat) (Option.none : Option Jvm.ClassFile.FieldType)) : Jvm.Cond).before a0 Z = true := hw _ (List.mem_of_getElem? (i := 5) rfl)
theorem w6 {Z : State} {a0 : Array Value} (hw : ∀ d ∈ tables_1, d.before a0 Z = true) : ((Jvm.Cond.methodLink "com/example/cormorant/cormorant/sim/Channel" (1 : Nat) ({ cls := "java/lang/Object", name := "<init>", desc := "()V" } : Jvm.MethodName)) : Jvm.Cond).before a0 Z = true := hw _ (List.mem_of_getElem? (i := 6) rfl)
theorem w7 {Z : State} {a0 : Array Value} (hw : ∀ d ∈ tables_1, d.before a0 Z = true) : ((Jvm.Cond.instanceMethod ({ cls := "java/lang/Object", name := "<init>", desc := "()V" } : Jvm.MethodName)) : Jvm.Cond).before a0 Z = true := hw _ (List.mem_of_getElem? (i := 7) rfl)
theorem w8 {Z : State} {a0 : Array Value} (hw : ∀ d ∈ tables_1, d.before a0 Z = true) : ((Jvm.Cond.code ({ cls := "java/lang/Object", name := "<init>", desc := "()V" } : Jvm.MethodName) object_method_1_code (1 : Nat) (Option.none : Option Jvm.ClassFile.FieldType)) : Jvm.Cond).before a0 Z = true := hw _ (List.mem_of_getElem? (i := 8) rfl)
theorem w9 {Z : State} {a0 : Array Value} (hw : ∀ d ∈ tables_1, d.before a0 Z = true) : ((Jvm.Cond.constantLong "com/example/cormorant/cormorant/sim/Channel" (7 : Nat) (-1 : Int64)) : Jvm.Cond).before a0 Z = true := hw _ (List.mem_of_getElem? (i := 9) rfl)
theorem w10 {Z : State} {a0 : Array Value} (hw : ∀ d ∈ tables_1, d.before a0 Z = true) : ((Jvm.Cond.fieldLink "com/example/cormorant/cormorant/sim/Channel" (9 : Nat) "com/example/cormorant/cormorant/sim/Channel" "lastNotice" "J") : Jvm.Cond).before a0 Z = true := hw _ (List.mem_of_getElem? (i := 10) rfl)
theorem w11 {Z : State} {a0 : Array Value} (hw : ∀ d ∈ tables_1, d.before a0 Z = true) : ((Jvm.Cond.lays "com/example/cormorant/cormorant/sim/Channel" "com/example/cormorant/cormorant/sim/Channel" "lastNotice" "J") : Jvm.Cond).before a0 Z = true := hw _ (List.mem_of_getElem? (i := 11) rfl)
theorem w12 {Z : State} {a0 : Array Value} (hw : ∀ d ∈ tables_1, d.before a0 Z = true) : ((Jvm.Cond.methodLink "com/example/cormorant/cormorant/sim/ChannelCarriesPinLaw" (16 : Nat) ({ cls := "com/example/cormorant/cormorant/sim/ChannelCarriesPinLaw", name := "step", desc := "(Lcom/example/cormorant/cormorant/sim/Channel;I)I" } : Jvm.MethodName)) : Jvm.Cond).before a0 Z = true := hw _ (List.mem_of_getElem? (i := 12) rfl)
theorem w13 {Z : State} {a0 : Array Value} (hw : ∀ d ∈ tables_1, d.before a0 Z = true) : ((Jvm.Cond.static ({ cls := "com/example/cormorant/cormorant/sim/ChannelCarriesPinLaw", name := "step", desc := "(Lcom/example/cormorant/cormorant/sim/Channel;I)I" } : Jvm.MethodName)) : Jvm.Cond).before a0 Z = true := hw _ (List.mem_of_getElem? (i := 13) rfl)
theorem w14 {Z : State} {a0 : Array Value} (hw : ∀ d ∈ tables_1, d.before a0 Z = true) : ((Jvm.Cond.initialized "com/example/cormorant/cormorant/sim/ChannelCarriesPinLaw") : Jvm.Cond).before a0 Z = true := hw _ (List.mem_of_getElem? (i := 14) rfl)
theorem w15 {Z : State} {a0 : Array Value} (hw : ∀ d ∈ tables_1, d.before a0 Z = true) : ((Jvm.Cond.code ({ cls := "com/example/cormorant/cormorant/sim/ChannelCarriesPinLaw", name := "step", desc := "(Lcom/example/cormorant/cormorant/sim/Channel;I)I" } : Jvm.MethodName) method_2_code (2 : Nat) (Option.some Jvm.ClassFile.FieldType.int)) : Jvm.Cond).before a0 Z = true := hw _ (List.mem_of_getElem? (i := 15) rfl)
theorem w16 {Z : State} {a0 : Array Value} (hw : ∀ d ∈ tables_1, d.before a0 Z = true) : ((Jvm.Cond.methodLink "com/example/cormorant/cormorant/sim/ChannelCarriesPinLaw" (22 : Nat) ({ cls := "com/example/cormorant/cormorant/sim/Channel", name := "carries", desc := "(J)Z" } : Jvm.MethodName)) : Jvm.Cond).before a0 Z = true := hw _ (List.mem_of_getElem? (i := 16) rfl)
theorem w17 {Z : State} {a0 : Array Value} (hw : ∀ d ∈ tables_1, d.before a0 Z = true) : ((Jvm.Cond.declares ({ cls := "com/example/cormorant/cormorant/sim/Channel", name := "carries", desc := "(J)Z" } : Jvm.MethodName)) : Jvm.Cond).before a0 Z = true := hw _ (List.mem_of_getElem? (i := 17) rfl)
theorem w18 {Z : State} {a0 : Array Value} (hw : ∀ d ∈ tables_1, d.before a0 Z = true) : ((Jvm.Cond.instanceMethod ({ cls := "com/example/cormorant/cormorant/sim/Channel", name := "carries", desc := "(J)Z" } : Jvm.MethodName)) : Jvm.Cond).before a0 Z = true := hw _ (List.mem_of_getElem? (i := 18) rfl)
theorem w19 {Z : State} {a0 : Array Value} (hw : ∀ d ∈ tables_1, d.before a0 Z = true) : ((Jvm.Cond.selects "com/example/cormorant/cormorant/sim/Channel" ({ cls := "com/example/cormorant/cormorant/sim/Channel", name := "carries", desc := "(J)Z" } : Jvm.MethodName) ({ cls := "com/example/cormorant/cormorant/sim/Channel", name := "carries", desc := "(J)Z" } : Jvm.MethodName)) : Jvm.Cond).before a0 Z = true := hw _ (List.mem_of_getElem? (i := 19) rfl)
theorem w20 {Z : State} {a0 : Array Value} (hw : ∀ d ∈ tables_1, d.before a0 Z = true) : ((Jvm.Cond.code ({ cls := "com/example/cormorant/cormorant/sim/Channel", name := "carries", desc := "(J)Z" } : Jvm.MethodName) prog_70_method_6_code (3 : Nat) (Option.some Jvm.ClassFile.FieldType.boolean)) : Jvm.Cond).before a0 Z = true := hw _ (List.mem_of_getElem? (i := 20) rfl)
theorem w21 {Z : State} {a0 : Array Value} (hw : ∀ d ∈ tables_1, d.before a0 Z = true) : ((Jvm.Cond.fieldLink "com/example/cormorant/cormorant/sim/Channel" (15 : Nat) "com/example/cormorant/cormorant/sim/Channel" "open" "Z") : Jvm.Cond).before a0 Z = true := hw _ (List.mem_of_getElem? (i := 21) rfl)
theorem w22 {Z : State} {a0 : Array Value} (hw : ∀ d ∈ tables_1, d.before a0 Z = true) : ((Jvm.Cond.lays "com/example/cormorant/cormorant/sim/Channel" "com/example/cormorant/cormorant/sim/Channel" "open" "Z") : Jvm.Cond).before a0 Z = true := hw _ (List.mem_of_getElem? (i := 22) rfl)
theorem w23 {Z : State} {a0 : Array Value} (hw : ∀ d ∈ tables_1, d.before a0 Z = true) : ((Jvm.Cond.methodLink "com/example/cormorant/cormorant/sim/ChannelCarriesPinLaw" (7 : Nat) ({ cls := "com/example/cormorant/cormorant/sim/Channel", name := "open", desc := "()V" } : Jvm.MethodName)) : Jvm.Cond).before a0 Z = true := hw _ (List.mem_of_getElem? (i := 23) rfl)
theorem w24 {Z : State} {a0 : Array Value} (hw : ∀ d ∈ tables_1, d.before a0 Z = true) : ((Jvm.Cond.declares ({ cls := "com/example/cormorant/cormorant/sim/Channel", name := "open", desc := "()V" } : Jvm.MethodName)) : Jvm.Cond).before a0 Z = true := hw _ (List.mem_of_getElem? (i := 24) rfl)
theorem w25 {Z : State} {a0 : Array Value} (hw : ∀ d ∈ tables_1, d.before a0 Z = true) : ((Jvm.Cond.instanceMethod ({ cls := "com/example/cormorant/cormorant/sim/Channel", name := "open", desc := "()V" } : Jvm.MethodName)) : Jvm.Cond).before a0 Z = true := hw _ (List.mem_of_getElem? (i := 25) rfl)
theorem w26 {Z : State} {a0 : Array Value} (hw : ∀ d ∈ tables_1, d.before a0 Z = true) : ((Jvm.Cond.selects "com/example/cormorant/cormorant/sim/Channel" ({ cls := "com/example/cormorant/cormorant/sim/Channel", name := "open", desc := "()V" } : Jvm.MethodName) ({ cls := "com/example/cormorant/cormorant/sim/Channel", name := "open", desc := "()V" } : Jvm.MethodName)) : Jvm.Cond).before a0 Z = true := hw _ (List.mem_of_getElem? (i := 26) rfl)
theorem w27 {Z : State} {a0 : Array Value} (hw : ∀ d ∈ tables_1, d.before a0 Z = true) : ((Jvm.Cond.code ({ cls := "com/example/cormorant/cormorant/sim/Channel", name := "open", desc := "()V" } : Jvm.MethodName) prog_70_method_2_code (1 : Nat) (Option.none : Option Jvm.ClassFile.FieldType)) : Jvm.Cond).before a0 Z = true := hw _ (List.mem_of_getElem? (i := 27) rfl)
theorem w28 {Z : State} {a0 : Array Value} (hw : ∀ d ∈ tables_1, d.before a0 Z = true) : ((Jvm.Cond.fieldLink "com/example/cormorant/cormorant/sim/Channel" (19 : Nat) "com/example/cormorant/cormorant/sim/Channel" "openings" "J") : Jvm.Cond).before a0 Z = true := hw _ (List.mem_of_getElem? (i := 28) rfl)
theorem w29 {Z : State} {a0 : Array Value} (hw : ∀ d ∈ tables_1, d.before a0 Z = true) : ((Jvm.Cond.lays "com/example/cormorant/cormorant/sim/Channel" "com/example/cormorant/cormorant/sim/Channel" "openings" "J") : Jvm.Cond).before a0 Z = true := hw _ (List.mem_of_getElem? (i := 29) rfl)
theorem w30 {Z : State} {a0 : Array Value} (hw : ∀ d ∈ tables_1, d.before a0 Z = true) : ((Jvm.Cond.methodLink "com/example/cormorant/cormorant/sim/ChannelCarriesPinLaw" (12 : Nat) ({ cls := "com/example/cormorant/cormorant/sim/Channel", name := "close", desc := "()V" } : Jvm.MethodName)) : Jvm.Cond).before a0 Z = true := hw _ (List.mem_of_getElem? (i := 30) rfl)
theorem w31 {Z : State} {a0 : Array Value} (hw : ∀ d ∈ tables_1, d.before a0 Z = true) : ((Jvm.Cond.declares ({ cls := "com/example/cormorant/cormorant/sim/Channel", name := "close", desc := "()V" } : Jvm.MethodName)) : Jvm.Cond).before a0 Z = true := hw _ (List.mem_of_getElem? (i := 31) rfl)
theorem w32 {Z : State} {a0 : Array Value} (hw : ∀ d ∈ tables_1, d.before a0 Z = true) : ((Jvm.Cond.instanceMethod ({ cls := "com/example/cormorant/cormorant/sim/Channel", name := "close", desc := "()V" } : Jvm.MethodName)) : Jvm.Cond).before a0 Z = true := hw _ (List.mem_of_getElem? (i := 32) rfl)
theorem w33 {Z : State} {a0 : Array Value} (hw : ∀ d ∈ tables_1, d.before a0 Z = true) : ((Jvm.Cond.selects "com/example/cormorant/cormorant/sim/Channel" ({ cls := "com/example/cormorant/cormorant/sim/Channel", name := "close", desc := "()V" } : Jvm.MethodName) ({ cls := "com/example/cormorant/cormorant/sim/Channel", name := "close", desc := "()V" } : Jvm.MethodName)) : Jvm.Cond).before a0 Z = true := hw _ (List.mem_of_getElem? (i := 33) rfl)
theorem w34 {Z : State} {a0 : Array Value} (hw : ∀ d ∈ tables_1, d.before a0 Z = true) : ((Jvm.Cond.code ({ cls := "com/example/cormorant/cormorant/sim/Channel", name := "close", desc := "()V" } : Jvm.MethodName) prog_70_method_3_code (1 : Nat) (Option.none : Option Jvm.ClassFile.FieldType)) : Jvm.Cond).before a0 Z = true := hw _ (List.mem_of_getElem? (i := 34) rfl)
theorem d_prog_70_method_1_0 : decode prog_70_method_1_code 0 = .ok (.aload_n 0, 1) := by decide +kernel
theorem d_prog_70_method_1_1 : decode prog_70_method_1_code 1 = .ok (.invokespecial 1, 3) := by decide +kernel
theorem d_prog_70_method_1_4 : decode prog_70_method_1_code 4 = .ok (.aload_n 0, 1) := by decide +kernel
theorem d_prog_70_method_1_5 : decode prog_70_method_1_code 5 = .ok (.ldc2_w 7, 3) := by decide +kernel
theorem d_prog_70_method_1_8 : decode prog_70_method_1_code 8 = .ok (.putfield 9, 3) := by decide +kernel
theorem d_prog_70_method_1_11 : decode prog_70_method_1_code 11 = .ok (.return_, 1) := by decide +kernel
theorem d_prog_70_method_2_0 : decode prog_70_method_2_code 0 = .ok (.aload_n 0, 1) := by decide +kernel
theorem d_prog_70_method_2_1 : decode prog_70_method_2_code 1 = .ok (.iconst 1, 1) := by decide +kernel
theorem d_prog_70_method_2_2 : decode prog_70_method_2_code 2 = .ok (.putfield 15, 3) := by decide +kernel
theorem d_prog_70_method_2_5 : decode prog_70_method_2_code 5 = .ok (.aload_n 0, 1) := by decide +kernel
theorem d_prog_70_method_2_6 : decode prog_70_method_2_code 6 = .ok (.dup, 1) := by decide +kernel
theorem d_prog_70_method_2_7 : decode prog_70_method_2_code 7 = .ok (.getfield 19, 3) := by decide +kernel
theorem d_prog_70_method_2_10 : decode prog_70_method_2_code 10 = .ok (.lconst 1, 1) := by decide +kernel
theorem d_prog_70_method_2_11 : decode prog_70_method_2_code 11 = .ok (.ladd, 1) := by decide +kernel
theorem d_prog_70_method_2_12 : decode prog_70_method_2_code 12 = .ok (.putfield 19, 3) := by decide +kernel
theorem d_prog_70_method_2_15 : decode prog_70_method_2_code 15 = .ok (.return_, 1) := by decide +kernel
theorem d_prog_70_method_3_0 : decode prog_70_method_3_code 0 = .ok (.aload_n 0, 1) := by decide +kernel
theorem d_prog_70_method_3_1 : decode prog_70_method_3_code 1 = .ok (.iconst 0, 1) := by decide +kernel
theorem d_prog_70_method_3_2 : decode prog_70_method_3_code 2 = .ok (.putfield 15, 3) := by decide +kernel
theorem d_prog_70_method_3_5 : decode prog_70_method_3_code 5 = .ok (.return_, 1) := by decide +kernel
theorem d_prog_70_method_6_0 : decode prog_70_method_6_code 0 = .ok (.aload_n 0, 1) := by decide +kernel
theorem d_prog_70_method_6_1 : decode prog_70_method_6_code 1 = .ok (.getfield 15, 3) := by decide +kernel
theorem d_prog_70_method_6_4 : decode prog_70_method_6_code 4 = .ok (.ifCond .eq 16, 3) := by decide +kernel
theorem d_prog_70_method_6_20 : decode prog_70_method_6_code 20 = .ok (.iconst 0, 1) := by decide +kernel
theorem d_prog_70_method_6_21 : decode prog_70_method_6_code 21 = .ok (.ireturn, 1) := by decide +kernel
theorem d_prog_70_method_6_7 : decode prog_70_method_6_code 7 = .ok (.lload_n 1, 1) := by decide +kernel
theorem d_prog_70_method_6_8 : decode prog_70_method_6_code 8 = .ok (.aload_n 0, 1) := by decide +kernel
theorem d_prog_70_method_6_9 : decode prog_70_method_6_code 9 = .ok (.getfield 19, 3) := by decide +kernel
theorem d_prog_70_method_6_12 : decode prog_70_method_6_code 12 = .ok (.lcmp, 1) := by decide +kernel
theorem d_prog_70_method_6_13 : decode prog_70_method_6_code 13 = .ok (.ifCond .ne 7, 3) := by decide +kernel
theorem d_prog_70_method_6_16 : decode prog_70_method_6_code 16 = .ok (.iconst 1, 1) := by decide +kernel
theorem d_prog_70_method_6_17 : decode prog_70_method_6_code 17 = .ok (.goto 4, 3) := by decide +kernel
theorem d_method_2_0 : decode method_2_code 0 = .ok (.iload_n 1, 1) := by decide +kernel
theorem d_method_2_1 : decode method_2_code 1 = .ok (.iconst 1, 1) := by decide +kernel
theorem d_method_2_2 : decode method_2_code 2 = .ok (.iand, 1) := by decide +kernel
theorem d_method_2_3 : decode method_2_code 3 = .ok (.ifCond .ne 5, 3) := by decide +kernel
theorem d_method_2_6 : decode method_2_code 6 = .ok (.iconst 0, 1) := by decide +kernel
theorem d_method_2_7 : decode method_2_code 7 = .ok (.ireturn, 1) := by decide +kernel
theorem d_method_2_8 : decode method_2_code 8 = .ok (.iload_n 1, 1) := by decide +kernel
theorem d_method_2_9 : decode method_2_code 9 = .ok (.iconst 2, 1) := by decide +kernel
theorem d_method_2_10 : decode method_2_code 10 = .ok (.iand, 1) := by decide +kernel
theorem d_method_2_11 : decode method_2_code 11 = .ok (.ifCond .eq 9, 3) := by decide +kernel
theorem d_method_2_20 : decode method_2_code 20 = .ok (.aload_n 0, 1) := by decide +kernel
theorem d_method_2_21 : decode method_2_code 21 = .ok (.invokevirtual 12, 3) := by decide +kernel
theorem d_method_2_24 : decode method_2_code 24 = .ok (.iconst 2, 1) := by decide +kernel
theorem d_method_2_25 : decode method_2_code 25 = .ok (.ireturn, 1) := by decide +kernel
theorem d_method_2_14 : decode method_2_code 14 = .ok (.aload_n 0, 1) := by decide +kernel
theorem d_method_2_15 : decode method_2_code 15 = .ok (.invokevirtual 7, 3) := by decide +kernel
theorem d_method_2_18 : decode method_2_code 18 = .ok (.iconst 1, 1) := by decide +kernel
theorem d_method_2_19 : decode method_2_code 19 = .ok (.ireturn, 1) := by decide +kernel
theorem pd_0 : parseMethodDescriptor "()V" = some ⟨[], none⟩ := by decide +kernel
theorem pd_1 : parseMethodDescriptor "(J)Z" = some ⟨[.long], some .boolean⟩ := by decide +kernel
theorem pd_2 : parseMethodDescriptor "(Lcom/example/cormorant/cormorant/sim/Channel;I)I" = some ⟨[(.object "com/example/cormorant/cormorant/sim/Channel"), .int], some .int⟩ := by decide +kernel
theorem pn_0 : plainName "com/example/cormorant/cormorant/sim/Channel" = true := by first | (simp [plainName, overriddenIn]; done) | decide +kernel
theorem pn_1 : plainName "com/example/cormorant/cormorant/sim/ChannelCarriesPinLaw" = true := by first | (simp [plainName, overriddenIn]; done) | decide +kernel
theorem ef_rmI (m : MethodId) (a0 : Addr) : entryFrame m #[(.ref a0)] 1 = mkF m 0 #[.val (.ref a0)] [] := by first | (simp [entryFrame, mkF, argsToLocals, Value.category]; done) | rfl
def Q_rmI (Z : State) (a0 : Addr) (h0 : Heap) (n0 : Nat) (v : Option Value) (h : Heap) : Prop := v = none ∧ Keep h0 h [a0] ∧ Exa Z h a0 "com/example/cormorant/cormorant/sim/Channel" ∧ Fld Z h a0 "com/example/cormorant/cormorant/sim/Channel" "open" "Z" (.int (0 : Int32)) ∧ Fld Z h a0 "com/example/cormorant/cormorant/sim/Channel" "openings" "J" (.long (0 : Int64)) ∧ Fld Z h a0 "com/example/cormorant/cormorant/sim/Channel" "lastNotice" "J" (.long (-1 : Int64))
set_option maxRecDepth 65536 in
set_option maxHeartbeats 40000000 in
theorem rmI (l : Launch) (Z : State) (aw : Array Value) (hw : ∀ d ∈ tables_1, d.before aw Z = true) (a0 : Addr) (h0 : Heap) (n0 : Nat) (E_a0 : Exa Z h0 a0 "com/example/cormorant/cormorant/sim/Channel") (F_a0_open : Fld Z h0 a0 "com/example/cormorant/cormorant/sim/Channel" "open" "Z" (.int (0 : Int32))) (F_a0_openings : Fld Z h0 a0 "com/example/cormorant/cormorant/sim/Channel" "openings" "J" (.long (0 : Int64))) (F_a0_lastNotice : Fld Z h0 a0 "com/example/cormorant/cormorant/sim/Channel" "lastNotice" "J" (.long (0 : Int64))) (g_a0 : n0 ≤ a0) :
    Con l Z (⟨"com/example/cormorant/cormorant/sim/Channel", "<init>", "()V"⟩ : MethodName) prog_70_method_1_code 1 none ({ frames := 1, cells := 0, slots := 0, locals := 12 } : Room) #[(.ref a0)] h0 n0 (Q_rmI Z a0 h0 n0) := by
  refine Con.body (plainFor_of_name pn_0) ?_
  intro p e s m below meth c T B S
  refine Goes.cast (ef_rmI m a0) ?_
  have K : Keep h0 h0 [a0] := Keep.refl _ _
  refine Goes.go (fun _ => XS.aloadN S.here B.x rfl (B.d d_prog_70_method_1_0) rfl rfl) ?_
  show Goes _ _ _ _ T (mkF m 1 #[.val (.ref a0)] [(.ref a0)])
  refine Goes.initO (W := 0) S B (w6 hw) (w7 hw) (w8 hw) d_prog_70_method_1_1 rfl (by decide) (Nat.le_of_eq rfl) (by decide) ?_
  intro T S
  show Goes _ _ _ _ T (mkF m 4 #[.val (.ref a0)] [])
  refine Goes.go (fun _ => XS.aloadN S.here B.x rfl (B.d d_prog_70_method_1_4) rfl rfl) ?_
  show Goes _ _ _ _ T (mkF m 5 #[.val (.ref a0)] [(.ref a0)])
  refine Goes.ldcL S B (w9 hw) d_prog_70_method_1_5 ?_
  show Goes _ _ _ _ T (mkF m 8 #[.val (.ref a0)] [(.long (-1 : Int64)), (.ref a0)])
  refine Goes.putF (v' := (.long (-1 : Int64))) S B (w10 hw) F_a0_lastNotice E_a0 (Or.inl (w11 hw)) (w1 hw) (ty := .long) (by decide) rfl rfl g_a0 d_prog_70_method_1_8 ?_
  intro T h S W
  replace K := K.wr W (Or.inl (by simp))
  replace E_a0 := E_a0.wr W
  replace F_a0_open := F_a0_open.other W (Or.inr (slot_ne (Or.inl (w22 hw)) (Or.inl (w11 hw)) (by decide) (t := .boolean) (t' := .long) (by decide) (by decide)))
  replace F_a0_openings := F_a0_openings.other W (Or.inr (slot_ne (Or.inl (w29 hw)) (Or.inl (w11 hw)) (by decide) (t := .long) (t' := .long) (by decide) (by decide)))
  replace F_a0_lastNotice := F_a0_lastNotice.same W
  show Goes _ _ _ _ T (mkF m 11 #[.val (.ref a0)] [])
  refine Goes.retV S B d_prog_70_method_1_11 (by decide) (by decide) ?_
  exact ⟨(by first | rfl | (rw [bi_pos (by assumption)]; rfl) | (rw [bi_neg (by assumption)]; rfl) | (rw [nar_bi]; exact congrArg (fun z => some (Value.int z)) (bi_congr (by simp_all))) | (simp_all [bi, nar]; done)), K, (by first | exact E_a0 | (simpa using E_a0)), (by first | exact F_a0_open | (simpa using F_a0_open)), (by first | exact F_a0_openings | (simpa using F_a0_openings)), (by first | exact F_a0_lastNotice | (simpa using F_a0_lastNotice))⟩
theorem ef_rm_open (m : MethodId) (a0 : Addr) : entryFrame m #[(.ref a0)] 1 = mkF m 0 #[.val (.ref a0)] [] := by first | (simp [entryFrame, mkF, argsToLocals, Value.category]; done) | rfl
def Q_rm_open (Z : State) (a0 : Addr) (g1 : Int32) (g2 : Int64) (h0 : Heap) (n0 : Nat) (v : Option Value) (h : Heap) : Prop := v = none ∧ Keep h0 h [a0] ∧ Exa Z h a0 "com/example/cormorant/cormorant/sim/Channel" ∧ Fld Z h a0 "com/example/cormorant/cormorant/sim/Channel" "open" "Z" (.int (1 : Int32)) ∧ Fld Z h a0 "com/example/cormorant/cormorant/sim/Channel" "openings" "J" (.long (g2 + (1 : Int64)))
set_option maxRecDepth 65536 in
set_option maxHeartbeats 40000000 in
theorem rm_open (l : Launch) (Z : State) (aw : Array Value) (hw : ∀ d ∈ tables_1, d.before aw Z = true) (a0 : Addr) (g1 : Int32) (g2 : Int64) (h0 : Heap) (n0 : Nat) (E_a0 : Exa Z h0 a0 "com/example/cormorant/cormorant/sim/Channel") (F_a0_open : Fld Z h0 a0 "com/example/cormorant/cormorant/sim/Channel" "open" "Z" (.int g1)) (F_a0_openings : Fld Z h0 a0 "com/example/cormorant/cormorant/sim/Channel" "openings" "J" (.long g2)) (g_a0 : n0 ≤ a0) :
    Con l Z (⟨"com/example/cormorant/cormorant/sim/Channel", "open", "()V"⟩ : MethodName) prog_70_method_2_code 1 none ({ frames := 0, cells := 0, slots := 0, locals := 0 } : Room) #[(.ref a0)] h0 n0 (Q_rm_open Z a0 g1 g2 h0 n0) := by
  refine Con.body (plainFor_of_name pn_0) ?_
  intro p e s m below meth c T B S
  refine Goes.cast (ef_rm_open m a0) ?_
  have K : Keep h0 h0 [a0] := Keep.refl _ _
  refine Goes.go (fun _ => XS.aloadN S.here B.x rfl (B.d d_prog_70_method_2_0) rfl rfl) ?_
  show Goes _ _ _ _ T (mkF m 1 #[.val (.ref a0)] [(.ref a0)])
  refine Goes.go (fun _ => XS.iconst S.here B.x rfl (B.d d_prog_70_method_2_1)) ?_
  show Goes _ _ _ _ T (mkF m 2 #[.val (.ref a0)] [(.int (1 : Int32)), (.ref a0)])
  refine Goes.putF (v' := (.int (1 : Int32))) S B (w21 hw) F_a0_open E_a0 (Or.inl (w22 hw)) (w1 hw) (ty := .boolean) (by decide) rfl rfl g_a0 d_prog_70_method_2_2 ?_
  intro T h S W
  replace K := K.wr W (Or.inl (by simp))
  replace E_a0 := E_a0.wr W
  replace F_a0_open := F_a0_open.same W
  replace F_a0_openings := F_a0_openings.other W (Or.inr (slot_ne (Or.inl (w29 hw)) (Or.inl (w22 hw)) (by decide) (t := .long) (t' := .boolean) (by decide) (by decide)))
  show Goes _ _ _ _ T (mkF m 5 #[.val (.ref a0)] [])
  refine Goes.go (fun _ => XS.aloadN S.here B.x rfl (B.d d_prog_70_method_2_5) rfl rfl) ?_
  show Goes _ _ _ _ T (mkF m 6 #[.val (.ref a0)] [(.ref a0)])
  refine Goes.go (fun _ => XS.dup S.here B.x rfl (B.d d_prog_70_method_2_6) rfl rfl) ?_
  show Goes _ _ _ _ T (mkF m 7 #[.val (.ref a0)] [(.ref a0), (.ref a0)])
  refine Goes.getF S B (w28 hw) F_a0_openings d_prog_70_method_2_7 ?_
  intro T S
  show Goes _ _ _ _ T (mkF m 10 #[.val (.ref a0)] [(.long g2), (.ref a0)])
  refine Goes.go (fun _ => XS.lconst S.here B.x rfl (B.d d_prog_70_method_2_10)) ?_
  show Goes _ _ _ _ T (mkF m 11 #[.val (.ref a0)] [(.long (1 : Int64)), (.long g2), (.ref a0)])
  refine Goes.go (fun _ => XS.ladd S.here B.x rfl (B.d d_prog_70_method_2_11) rfl) ?_
  show Goes _ _ _ _ T (mkF m 12 #[.val (.ref a0)] [(.long (g2 + (1 : Int64))), (.ref a0)])
  refine Goes.putF (v' := (.long (g2 + (1 : Int64)))) S B (w28 hw) F_a0_openings E_a0 (Or.inl (w29 hw)) (w1 hw) (ty := .long) (by decide) rfl rfl g_a0 d_prog_70_method_2_12 ?_
  intro T h S W
  replace K := K.wr W (Or.inl (by simp))
  replace E_a0 := E_a0.wr W
  replace F_a0_open := F_a0_open.other W (Or.inr (slot_ne (Or.inl (w22 hw)) (Or.inl (w29 hw)) (by decide) (t := .boolean) (t' := .long) (by decide) (by decide)))
  replace F_a0_openings := F_a0_openings.same W
  show Goes _ _ _ _ T (mkF m 15 #[.val (.ref a0)] [])
  refine Goes.retV S B d_prog_70_method_2_15 (by decide) (by decide) ?_
  exact ⟨(by first | rfl | (rw [bi_pos (by assumption)]; rfl) | (rw [bi_neg (by assumption)]; rfl) | (rw [nar_bi]; exact congrArg (fun z => some (Value.int z)) (bi_congr (by simp_all))) | (simp_all [bi, nar]; done)), K, (by first | exact E_a0 | (simpa using E_a0)), (by first | exact F_a0_open | (simpa using F_a0_open)), (by first | exact F_a0_openings | (simpa using F_a0_openings))⟩
theorem ef_rm_close (m : MethodId) (a0 : Addr) : entryFrame m #[(.ref a0)] 1 = mkF m 0 #[.val (.ref a0)] [] := by first | (simp [entryFrame, mkF, argsToLocals, Value.category]; done) | rfl
def Q_rm_close (Z : State) (a0 : Addr) (g1 : Int32) (g2 : Int64) (h0 : Heap) (n0 : Nat) (v : Option Value) (h : Heap) : Prop := v = none ∧ Keep h0 h [a0] ∧ Exa Z h a0 "com/example/cormorant/cormorant/sim/Channel" ∧ Fld Z h a0 "com/example/cormorant/cormorant/sim/Channel" "open" "Z" (.int (0 : Int32)) ∧ Fld Z h a0 "com/example/cormorant/cormorant/sim/Channel" "openings" "J" (.long g2)
set_option maxRecDepth 65536 in
set_option maxHeartbeats 40000000 in
theorem rm_close (l : Launch) (Z : State) (aw : Array Value) (hw : ∀ d ∈ tables_1, d.before aw Z = true) (a0 : Addr) (g1 : Int32) (g2 : Int64) (h0 : Heap) (n0 : Nat) (E_a0 : Exa Z h0 a0 "com/example/cormorant/cormorant/sim/Channel") (F_a0_open : Fld Z h0 a0 "com/example/cormorant/cormorant/sim/Channel" "open" "Z" (.int g1)) (F_a0_openings : Fld Z h0 a0 "com/example/cormorant/cormorant/sim/Channel" "openings" "J" (.long g2)) (g_a0 : n0 ≤ a0) :
    Con l Z (⟨"com/example/cormorant/cormorant/sim/Channel", "close", "()V"⟩ : MethodName) prog_70_method_3_code 1 none ({ frames := 0, cells := 0, slots := 0, locals := 0 } : Room) #[(.ref a0)] h0 n0 (Q_rm_close Z a0 g1 g2 h0 n0) := by
  refine Con.body (plainFor_of_name pn_0) ?_
  intro p e s m below meth c T B S
  refine Goes.cast (ef_rm_close m a0) ?_
  have K : Keep h0 h0 [a0] := Keep.refl _ _
  refine Goes.go (fun _ => XS.aloadN S.here B.x rfl (B.d d_prog_70_method_3_0) rfl rfl) ?_
  show Goes _ _ _ _ T (mkF m 1 #[.val (.ref a0)] [(.ref a0)])
  refine Goes.go (fun _ => XS.iconst S.here B.x rfl (B.d d_prog_70_method_3_1)) ?_
  show Goes _ _ _ _ T (mkF m 2 #[.val (.ref a0)] [(.int (0 : Int32)), (.ref a0)])
  refine Goes.putF (v' := (.int (0 : Int32))) S B (w21 hw) F_a0_open E_a0 (Or.inl (w22 hw)) (w1 hw) (ty := .boolean) (by decide) rfl rfl g_a0 d_prog_70_method_3_2 ?_
  intro T h S W
  replace K := K.wr W (Or.inl (by simp))
  replace E_a0 := E_a0.wr W
  replace F_a0_open := F_a0_open.same W
  replace F_a0_openings := F_a0_openings.other W (Or.inr (slot_ne (Or.inl (w29 hw)) (Or.inl (w22 hw)) (by decide) (t := .long) (t' := .boolean) (by decide) (by decide)))
  show Goes _ _ _ _ T (mkF m 5 #[.val (.ref a0)] [])
  refine Goes.retV S B d_prog_70_method_3_5 (by decide) (by decide) ?_
  exact ⟨(by first | rfl | (rw [bi_pos (by assumption)]; rfl) | (rw [bi_neg (by assumption)]; rfl) | (rw [nar_bi]; exact congrArg (fun z => some (Value.int z)) (bi_congr (by simp_all))) | (simp_all [bi, nar]; done)), K, (by first | exact E_a0 | (simpa using E_a0)), (by first | exact F_a0_open | (simpa using F_a0_open)), (by first | exact F_a0_openings | (simpa using F_a0_openings))⟩
theorem ef_rm_carries (m : MethodId) (a0 : Addr) (q1 : Int64) : entryFrame m #[(.ref a0), (.long q1)] 3 = mkF m 0 #[.val (.ref a0), .val (.long q1), .second] [] := by first | (simp [entryFrame, mkF, argsToLocals, Value.category]; done) | rfl
def Q_rm_carries (Z : State) (a0 : Addr) (q1 : Int64) (g1 : Int32) (g2 : Int64) (h0 : Heap) (n0 : Nat) (v : Option Value) (h : Heap) : Prop := v = some (.int (bi (¬ g1 = (0 : Int32) ∧ q1 = g2))) ∧ h = h0
set_option maxRecDepth 65536 in
set_option maxHeartbeats 40000000 in
theorem rm_carries (l : Launch) (Z : State) (aw : Array Value) (hw : ∀ d ∈ tables_1, d.before aw Z = true) (a0 : Addr) (q1 : Int64) (g1 : Int32) (g2 : Int64) (h0 : Heap) (n0 : Nat) (F_a0_open : Fld Z h0 a0 "com/example/cormorant/cormorant/sim/Channel" "open" "Z" (.int g1)) (F_a0_openings : Fld Z h0 a0 "com/example/cormorant/cormorant/sim/Channel" "openings" "J" (.long g2)) :
    Con l Z (⟨"com/example/cormorant/cormorant/sim/Channel", "carries", "(J)Z"⟩ : MethodName) prog_70_method_6_code 3 (some .boolean) ({ frames := 0, cells := 0, slots := 0, locals := 0 } : Room) #[(.ref a0), (.long q1)] h0 n0 (Q_rm_carries Z a0 q1 g1 g2 h0 n0) := by
  refine Con.body (plainFor_of_name pn_0) ?_
  intro p e s m below meth c T B S
  refine Goes.cast (ef_rm_carries m a0 q1) ?_
  refine Goes.go (fun _ => XS.aloadN S.here B.x rfl (B.d d_prog_70_method_6_0) rfl rfl) ?_
  show Goes _ _ _ _ T (mkF m 1 #[.val (.ref a0), .val (.long q1), .second] [(.ref a0)])
  refine Goes.getF S B (w21 hw) F_a0_open d_prog_70_method_6_1 ?_
  intro T S
  show Goes _ _ _ _ T (mkF m 4 #[.val (.ref a0), .val (.long q1), .second] [(.int g1)])
  by_cases hc4 : g1 = (0 : Int32)
  · skip
    refine Goes.go (fun _ => XS.ifYes S.here B.x rfl (pc0 := 4) (pc' := 20) rfl (B.d d_prog_70_method_6_4) rfl ((if0 _ _).trans (teq hc4).1) (by decide) (by decide)) ?_
    show Goes _ _ _ _ T (mkF m 20 #[.val (.ref a0), .val (.long q1), .second] [])
    refine Goes.go (fun _ => XS.iconst S.here B.x rfl (B.d d_prog_70_method_6_20)) ?_
    show Goes _ _ _ _ T (mkF m 21 #[.val (.ref a0), .val (.long q1), .second] [(.int (0 : Int32))])
    refine Goes.retN S B (by simp) d_prog_70_method_6_21 (by decide) (by decide) ?_
    exact ⟨(by first | (simp_all [bi, nar]; done) | (rw [nar_bi]; exact congrArg (fun z => some (Value.int z)) (bi_congr (by simp_all)))), rfl⟩
  · skip
    refine Goes.go (fun _ => XS.ifNo S.here B.x rfl (B.d d_prog_70_method_6_4) rfl ((if0 _ _).trans (feq hc4).1)) ?_
    show Goes _ _ _ _ T (mkF m 7 #[.val (.ref a0), .val (.long q1), .second] [])
    refine Goes.go (fun _ => XS.lloadN S.here B.x rfl (B.d d_prog_70_method_6_7) rfl) ?_
    show Goes _ _ _ _ T (mkF m 8 #[.val (.ref a0), .val (.long q1), .second] [(.long q1)])
    refine Goes.go (fun _ => XS.aloadN S.here B.x rfl (B.d d_prog_70_method_6_8) rfl rfl) ?_
    show Goes _ _ _ _ T (mkF m 9 #[.val (.ref a0), .val (.long q1), .second] [(.ref a0), (.long q1)])
    refine Goes.getF S B (w28 hw) F_a0_openings d_prog_70_method_6_9 ?_
    intro T S
    show Goes _ _ _ _ T (mkF m 12 #[.val (.ref a0), .val (.long q1), .second] [(.long g2), (.long q1)])
    refine Goes.go (fun _ => XS.lcmp S.here B.x rfl (B.d d_prog_70_method_6_12) rfl) ?_
    show Goes _ _ _ _ T (mkF m 13 #[.val (.ref a0), .val (.long q1), .second] [(.int (lcmpW q1 g2))])
    refine Goes.dia (P := q1 = g2) (mk := fun z => (mkF m 21 #[.val (.ref a0), .val (.long q1), .second] [(.int z)])) (fun hc13 kk => ?_) (fun hc13 kk => ?_) ?_
    · skip
      refine Goes.go (fun _ => XS.ifNo S.here B.x rfl (B.d d_prog_70_method_6_13) rfl ((if0 _ _).trans (teq ((lw_eq q1 g2).mpr hc13)).2)) ?_
      show Goes _ _ _ _ T (mkF m 16 #[.val (.ref a0), .val (.long q1), .second] [])
      refine Goes.go (fun _ => XS.iconst S.here B.x rfl (B.d d_prog_70_method_6_16)) ?_
      show Goes _ _ _ _ T (mkF m 17 #[.val (.ref a0), .val (.long q1), .second] [(.int (1 : Int32))])
      refine Goes.go (fun _ => XS.goto S.here B.x rfl (pc0 := 17) (pc' := 21) rfl (B.d d_prog_70_method_6_17) (by decide) (by decide)) ?_
      show Goes _ _ _ _ T (mkF m 21 #[.val (.ref a0), .val (.long q1), .second] [(.int (1 : Int32))])
      exact kk
    · skip
      refine Goes.go (fun _ => XS.ifYes S.here B.x rfl (pc0 := 13) (pc' := 20) rfl (B.d d_prog_70_method_6_13) rfl ((if0 _ _).trans (feq (mt (lw_eq q1 g2).mp hc13)).2) (by decide) (by decide)) ?_
      show Goes _ _ _ _ T (mkF m 20 #[.val (.ref a0), .val (.long q1), .second] [])
      refine Goes.go (fun _ => XS.iconst S.here B.x rfl (B.d d_prog_70_method_6_20)) ?_
      show Goes _ _ _ _ T (mkF m 21 #[.val (.ref a0), .val (.long q1), .second] [(.int (0 : Int32))])
      exact kk
    show Goes _ _ _ _ T (mkF m 21 #[.val (.ref a0), .val (.long q1), .second] [(.int (bi (q1 = g2)))])
    refine Goes.retN S B (by simp) d_prog_70_method_6_21 (by decide) (by decide) ?_
    exact ⟨(by first | (simp_all [bi, nar]; done) | (rw [nar_bi]; exact congrArg (fun z => some (Value.int z)) (bi_congr (by simp_all)))), rfl⟩
theorem ef_rm_step (m : MethodId) (a0 : Addr) (p1 : Int32) : entryFrame m #[(.ref a0), (.int p1)] 2 = mkF m 0 #[.val (.ref a0), .val (.int p1)] [] := by first | (simp [entryFrame, mkF, argsToLocals, Value.category]; done) | rfl
def Q_rm_step (Z : State) (a0 : Addr) (p1 : Int32) (g1 : Int32) (g2 : Int64) (h0 : Heap) (n0 : Nat) (v : Option Value) (h : Heap) : Prop := ∃ (r : Int32) (o : Int32) (n : Int64), v = some (.int r) ∧ Keep h0 h [a0] ∧ Exa Z h a0 "com/example/cormorant/cormorant/sim/Channel" ∧ Fld Z h a0 "com/example/cormorant/cormorant/sim/Channel" "open" "Z" (.int o) ∧ Fld Z h a0 "com/example/cormorant/cormorant/sim/Channel" "openings" "J" (.long n) ∧ ((r = (0 : Int32) ∧ g1 = o ∧ g2 = n) ∨ (r = (1 : Int32) ∧ o = (1 : Int32) ∧ n = (g2 + (1 : Int64))) ∨ (r = (2 : Int32) ∧ o = (0 : Int32) ∧ g2 = n))
set_option maxRecDepth 65536 in
set_option maxHeartbeats 40000000 in
theorem rm_step (l : Launch) (Z : State) (aw : Array Value) (hw : ∀ d ∈ tables_1, d.before aw Z = true) (a0 : Addr) (p1 : Int32) (g1 : Int32) (g2 : Int64) (h0 : Heap) (n0 : Nat) (E_a0 : Exa Z h0 a0 "com/example/cormorant/cormorant/sim/Channel") (F_a0_open : Fld Z h0 a0 "com/example/cormorant/cormorant/sim/Channel" "open" "Z" (.int g1)) (F_a0_openings : Fld Z h0 a0 "com/example/cormorant/cormorant/sim/Channel" "openings" "J" (.long g2)) (g_a0 : n0 ≤ a0) :
    Con l Z (⟨"com/example/cormorant/cormorant/sim/ChannelCarriesPinLaw", "step", "(Lcom/example/cormorant/cormorant/sim/Channel;I)I"⟩ : MethodName) method_2_code 2 (some .int) ({ frames := 1, cells := 0, slots := 0, locals := 12 } : Room) #[(.ref a0), (.int p1)] h0 n0 (Q_rm_step Z a0 p1 g1 g2 h0 n0) := by
  refine Con.body (plainFor_of_name pn_1) ?_
  intro p e s m below meth c T B S
  refine Goes.cast (ef_rm_step m a0 p1) ?_
  have K : Keep h0 h0 [a0] := Keep.refl _ _
  refine Goes.go (fun _ => XS.iloadN S.here B.x rfl (B.d d_method_2_0) rfl) ?_
  show Goes _ _ _ _ T (mkF m 1 #[.val (.ref a0), .val (.int p1)] [(.int p1)])
  refine Goes.go (fun _ => XS.iconst S.here B.x rfl (B.d d_method_2_1)) ?_
  show Goes _ _ _ _ T (mkF m 2 #[.val (.ref a0), .val (.int p1)] [(.int (1 : Int32)), (.int p1)])
  refine Goes.go (fun _ => XS.iand S.here B.x rfl (B.d d_method_2_2) rfl) ?_
  show Goes _ _ _ _ T (mkF m 3 #[.val (.ref a0), .val (.int p1)] [(.int (p1 &&& (1 : Int32)))])
  by_cases hc3 : (p1 &&& (1 : Int32)) = (0 : Int32)
  · skip
    refine Goes.go (fun _ => XS.ifNo S.here B.x rfl (B.d d_method_2_3) rfl ((if0 _ _).trans (teq hc3).2)) ?_
    show Goes _ _ _ _ T (mkF m 6 #[.val (.ref a0), .val (.int p1)] [])
    refine Goes.go (fun _ => XS.iconst S.here B.x rfl (B.d d_method_2_6)) ?_
    show Goes _ _ _ _ T (mkF m 7 #[.val (.ref a0), .val (.int p1)] [(.int (0 : Int32))])
    refine Goes.retI S B d_method_2_7 (by decide) (by decide) ?_
    exact ⟨_, _, _, rfl, K, E_a0, F_a0_open, F_a0_openings, Or.inl ⟨rfl, rfl, rfl⟩⟩
  · skip
    refine Goes.go (fun _ => XS.ifYes S.here B.x rfl (pc0 := 3) (pc' := 8) rfl (B.d d_method_2_3) rfl ((if0 _ _).trans (feq hc3).2) (by decide) (by decide)) ?_
    show Goes _ _ _ _ T (mkF m 8 #[.val (.ref a0), .val (.int p1)] [])
    refine Goes.go (fun _ => XS.iloadN S.here B.x rfl (B.d d_method_2_8) rfl) ?_
    show Goes _ _ _ _ T (mkF m 9 #[.val (.ref a0), .val (.int p1)] [(.int p1)])
    refine Goes.go (fun _ => XS.iconst S.here B.x rfl (B.d d_method_2_9)) ?_
    show Goes _ _ _ _ T (mkF m 10 #[.val (.ref a0), .val (.int p1)] [(.int (2 : Int32)), (.int p1)])
    refine Goes.go (fun _ => XS.iand S.here B.x rfl (B.d d_method_2_10) rfl) ?_
    show Goes _ _ _ _ T (mkF m 11 #[.val (.ref a0), .val (.int p1)] [(.int (p1 &&& (2 : Int32)))])
    by_cases hc11 : (p1 &&& (2 : Int32)) = (0 : Int32)
    · skip
      refine Goes.go (fun _ => XS.ifYes S.here B.x rfl (pc0 := 11) (pc' := 20) rfl (B.d d_method_2_11) rfl ((if0 _ _).trans (teq hc11).1) (by decide) (by decide)) ?_
      show Goes _ _ _ _ T (mkF m 20 #[.val (.ref a0), .val (.int p1)] [])
      refine Goes.go (fun _ => XS.aloadN S.here B.x rfl (B.d d_method_2_20) rfl rfl) ?_
      show Goes _ _ _ _ T (mkF m 21 #[.val (.ref a0), .val (.int p1)] [(.ref a0)])
      refine Goes.callV (argsL := []) (rest := []) (W := 0) S B (rm_close l Z aw hw a0 g1 g2 _ n0 E_a0 F_a0_open F_a0_openings g_a0) E_a0 (w30 hw) (w31 hw) (w33 hw) (w32 hw) (w2 hw) (w34 hw) (by decide) (by decide) (by decide) (by decide) (by decide) rfl (lenOf pd_0 rfl) rfl (Nat.le_of_eq rfl) d_method_2_21 ?_
      intro v T h S hQ
      obtain ⟨rfl, Kc, E_a0', F_a0_open', F_a0_openings'⟩ := hQ
      replace K := K.trans Kc (allS (Or.inl (by simp)) all0)
      replace E_a0 := E_a0'
      replace F_a0_open := F_a0_open'
      replace F_a0_openings := F_a0_openings'
      show Goes _ _ _ _ T (mkF m 24 #[.val (.ref a0), .val (.int p1)] [])
      refine Goes.go (fun _ => XS.iconst S.here B.x rfl (B.d d_method_2_24)) ?_
      show Goes _ _ _ _ T (mkF m 25 #[.val (.ref a0), .val (.int p1)] [(.int (2 : Int32))])
      refine Goes.retI S B d_method_2_25 (by decide) (by decide) ?_
      exact ⟨_, _, _, rfl, K, E_a0, F_a0_open, F_a0_openings, Or.inr (Or.inr ⟨rfl, rfl, rfl⟩)⟩
    · skip
      refine Goes.go (fun _ => XS.ifNo S.here B.x rfl (B.d d_method_2_11) rfl ((if0 _ _).trans (feq hc11).1)) ?_
      show Goes _ _ _ _ T (mkF m 14 #[.val (.ref a0), .val (.int p1)] [])
      refine Goes.go (fun _ => XS.aloadN S.here B.x rfl (B.d d_method_2_14) rfl rfl) ?_
      show Goes _ _ _ _ T (mkF m 15 #[.val (.ref a0), .val (.int p1)] [(.ref a0)])
      refine Goes.callV (argsL := []) (rest := []) (W := 0) S B (rm_open l Z aw hw a0 g1 g2 _ n0 E_a0 F_a0_open F_a0_openings g_a0) E_a0 (w23 hw) (w24 hw) (w26 hw) (w25 hw) (w2 hw) (w27 hw) (by decide) (by decide) (by decide) (by decide) (by decide) rfl (lenOf pd_0 rfl) rfl (Nat.le_of_eq rfl) d_method_2_15 ?_
      intro v T h S hQ
      obtain ⟨rfl, Kc, E_a0', F_a0_open', F_a0_openings'⟩ := hQ
      replace K := K.trans Kc (allS (Or.inl (by simp)) all0)
      replace E_a0 := E_a0'
      replace F_a0_open := F_a0_open'
      replace F_a0_openings := F_a0_openings'
      show Goes _ _ _ _ T (mkF m 18 #[.val (.ref a0), .val (.int p1)] [])
      refine Goes.go (fun _ => XS.iconst S.here B.x rfl (B.d d_method_2_18)) ?_
      show Goes _ _ _ _ T (mkF m 19 #[.val (.ref a0), .val (.int p1)] [(.int (1 : Int32))])
      refine Goes.retI S B d_method_2_19 (by decide) (by decide) ?_
      exact ⟨_, _, _, rfl, K, E_a0, F_a0_open, F_a0_openings, Or.inr (Or.inl ⟨rfl, rfl, rfl⟩)⟩
theorem ef_rm0 (m : MethodId) (p0 : Int32) (p1 : Int32) (q2 : Int64) : entryFrame m #[(.int p0), (.int p1), (.long q2)] maxLocals = mkF m 0 #[.val (.int p0), .val (.int p1), .val (.long q2), .second, .unset, .unset, .unset, .unset, .unset, .unset, .unset, .unset, .unset] [] := by first | (simp [entryFrame, mkF, argsToLocals, Value.category, maxLocals]; done) | rfl
def Q_rm0 (Z : State) (p0 : Int32) (p1 : Int32) (q2 : Int64) (h0 : Heap) (n0 : Nat) (v : Option Value) (h : Heap) : Prop := v = some (.int 1)
set_option maxRecDepth 65536 in
set_option maxHeartbeats 40000000 in
theorem rm0 (l : Launch) (Z : State) (aw : Array Value) (hw : ∀ d ∈ tables_1, d.before aw Z = true) (p0 : Int32) (p1 : Int32) (q2 : Int64) (h0 : Heap) (n0 : Nat) :
    Con l Z x code maxLocals ret room_1 #[(.int p0), (.int p1), (.long q2)] h0 n0 (Q_rm0 Z p0 p1 q2 h0 n0) := by
  refine Con.body (plainFor_of_name pn_1) ?_
  intro p e s m below meth c T B S
  refine Goes.cast (ef_rm0 m p0 p1 q2) ?_
  refine Goes.newO S B (w0 hw) (w1 hw) (w2 hw) at_0 (by decide) (by decide) ?_
  intro T h b1 S X zb g_b1 E_b1 D
  have F_b1_lastNotice : Fld Z h b1 "com/example/cormorant/cormorant/sim/Channel" "lastNotice" "J" (.long (0 : Int64)) := D (Or.inl (w11 hw)) (ty := .long) (by decide)
  have F_b1_open : Fld Z h b1 "com/example/cormorant/cormorant/sim/Channel" "open" "Z" (.int (0 : Int32)) := D (Or.inl (w22 hw)) (ty := .boolean) (by decide)
  have F_b1_openings : Fld Z h b1 "com/example/cormorant/cormorant/sim/Channel" "openings" "J" (.long (0 : Int64)) := D (Or.inl (w29 hw)) (ty := .long) (by decide)
  show Goes _ _ _ _ T (mkF m 3 #[.val (.int p0), .val (.int p1), .val (.long q2), .second, .unset, .unset, .unset, .unset, .unset, .unset, .unset, .unset, .unset] [(.ref b1)])
  refine Goes.go (fun _ => XS.dup S.here B.x rfl (B.d at_3) rfl rfl) ?_
  show Goes _ _ _ _ T (mkF m 4 #[.val (.int p0), .val (.int p1), .val (.long q2), .second, .unset, .unset, .unset, .unset, .unset, .unset, .unset, .unset, .unset] [(.ref b1), (.ref b1)])
  refine Goes.callI (argsL := []) (rest := [(.ref b1)]) (W := 1) S B (rmI l Z aw hw b1 _ n0 E_b1 F_b1_open F_b1_openings F_b1_lastNotice g_b1) (w3 hw) (w4 hw) (w2 hw) (w5 hw) (by decide) rfl (by decide) (by decide) (by decide) (by decide) rfl (lenOf pd_0 rfl) rfl (Nat.le_of_eq rfl) at_4 ?_
  intro v T h S hQ
  obtain ⟨rfl, Kc, E_b1', F_b1_open', F_b1_openings', F_b1_lastNotice'⟩ := hQ
  replace E_b1 := E_b1'
  replace F_b1_open := F_b1_open'
  replace F_b1_openings := F_b1_openings'
  replace F_b1_lastNotice := F_b1_lastNotice'
  show Goes _ _ _ _ T (mkF m 7 #[.val (.int p0), .val (.int p1), .val (.long q2), .second, .unset, .unset, .unset, .unset, .unset, .unset, .unset, .unset, .unset] [(.ref b1)])
  refine Goes.go (fun _ => XS.astore S.here B.x rfl (B.d at_7) rfl rfl (l' := #[.val (.int p0), .val (.int p1), .val (.long q2), .second, .val (.ref b1), .unset, .unset, .unset, .unset, .unset, .unset, .unset, .unset]) rfl) ?_
  show Goes _ _ _ _ T (mkF m 9 #[.val (.int p0), .val (.int p1), .val (.long q2), .second, .val (.ref b1), .unset, .unset, .unset, .unset, .unset, .unset, .unset, .unset] [])
  refine Goes.go (fun _ => XS.iconst S.here B.x rfl (B.d at_9)) ?_
  show Goes _ _ _ _ T (mkF m 10 #[.val (.int p0), .val (.int p1), .val (.long q2), .second, .val (.ref b1), .unset, .unset, .unset, .unset, .unset, .unset, .unset, .unset] [(.int (0 : Int32))])
  refine Goes.go (fun _ => XS.istore S.here B.x rfl (B.d at_10) rfl (l' := #[.val (.int p0), .val (.int p1), .val (.long q2), .second, .val (.ref b1), .val (.int (0 : Int32)), .unset, .unset, .unset, .unset, .unset, .unset, .unset]) rfl) ?_
  show Goes _ _ _ _ T (mkF m 12 #[.val (.int p0), .val (.int p1), .val (.long q2), .second, .val (.ref b1), .val (.int (0 : Int32)), .unset, .unset, .unset, .unset, .unset, .unset, .unset] [])
  refine Goes.go (fun _ => XS.lconst S.here B.x rfl (B.d at_12)) ?_
  show Goes _ _ _ _ T (mkF m 13 #[.val (.int p0), .val (.int p1), .val (.long q2), .second, .val (.ref b1), .val (.int (0 : Int32)), .unset, .unset, .unset, .unset, .unset, .unset, .unset] [(.long (0 : Int64))])
  refine Goes.go (fun _ => XS.lstore S.here B.x rfl (B.d at_13) rfl (l' := #[.val (.int p0), .val (.int p1), .val (.long q2), .second, .val (.ref b1), .val (.int (0 : Int32)), .val (.long (0 : Int64)), .second, .unset, .unset, .unset, .unset, .unset]) rfl) ?_
  show Goes _ _ _ _ T (mkF m 15 #[.val (.int p0), .val (.int p1), .val (.long q2), .second, .val (.ref b1), .val (.int (0 : Int32)), .val (.long (0 : Int64)), .second, .unset, .unset, .unset, .unset, .unset] [])
  have J2 : ∀ (T : State) (h : Heap) (o1 : Int32) (n1 : Int64) (r1 : Int32), Sd p l e room_1 s m #[(.int p0), (.int p1), (.long q2)] below meth c T h n0 1 4 → Exa Z h b1 "com/example/cormorant/cormorant/sim/Channel" → Fld Z h b1 "com/example/cormorant/cormorant/sim/Channel" "open" "Z" (.int o1) → Fld Z h b1 "com/example/cormorant/cormorant/sim/Channel" "openings" "J" (.long n1) → Goes p.tables e below (Fine s n0 (Q_rm0 Z p0 p1 q2 h0 n0) room_1.cells room_1.slots) T (mkF m 50 #[.val (.int p0), .val (.int p1), .val (.long q2), .second, .val (.ref b1), .val (.int o1), .val (.long n1), .second, .val (.int r1), .unset, .unset, .unset, .unset] []) := by
    intro T h o1 n1 r1 S E_b1 F_b1_open F_b1_openings
    have J3 : ∀ (T : State) (h : Heap) (o2 : Int32) (n2 : Int64) (r2 : Int32), Sd p l e room_1 s m #[(.int p0), (.int p1), (.long q2)] below meth c T h n0 1 4 → Exa Z h b1 "com/example/cormorant/cormorant/sim/Channel" → Fld Z h b1 "com/example/cormorant/cormorant/sim/Channel" "open" "Z" (.int o2) → Fld Z h b1 "com/example/cormorant/cormorant/sim/Channel" "openings" "J" (.long n2) → Goes p.tables e below (Fine s n0 (Q_rm0 Z p0 p1 q2 h0 n0) room_1.cells room_1.slots) T (mkF m 87 #[.val (.int p0), .val (.int p1), .val (.long q2), .second, .val (.ref b1), .val (.int o2), .val (.long n2), .second, .val (.int r2), .unset, .unset, .unset, .unset] []) := by
      intro T h o2 n2 r2 S E_b1 F_b1_open F_b1_openings
      have J4 : ∀ (T : State) (h : Heap) (o3 : Int32) (n3 : Int64) (r3 : Int32), Sd p l e room_1 s m #[(.int p0), (.int p1), (.long q2)] below meth c T h n0 1 4 → Exa Z h b1 "com/example/cormorant/cormorant/sim/Channel" → Fld Z h b1 "com/example/cormorant/cormorant/sim/Channel" "open" "Z" (.int o3) → Fld Z h b1 "com/example/cormorant/cormorant/sim/Channel" "openings" "J" (.long n3) → Goes p.tables e below (Fine s n0 (Q_rm0 Z p0 p1 q2 h0 n0) room_1.cells room_1.slots) T (mkF m 124 #[.val (.int p0), .val (.int p1), .val (.long q2), .second, .val (.ref b1), .val (.int o3), .val (.long n3), .second, .val (.int r3), .unset, .unset, .unset, .unset] []) := by
        intro T h o3 n3 r3 S E_b1 F_b1_open F_b1_openings
        have J5 : ∀ (T : State) (h : Heap) (o4 : Int32) (n4 : Int64) (r4 : Int32), Sd p l e room_1 s m #[(.int p0), (.int p1), (.long q2)] below meth c T h n0 1 4 → Exa Z h b1 "com/example/cormorant/cormorant/sim/Channel" → Fld Z h b1 "com/example/cormorant/cormorant/sim/Channel" "open" "Z" (.int o4) → Fld Z h b1 "com/example/cormorant/cormorant/sim/Channel" "openings" "J" (.long n4) → Goes p.tables e below (Fine s n0 (Q_rm0 Z p0 p1 q2 h0 n0) room_1.cells room_1.slots) T (mkF m 162 #[.val (.int p0), .val (.int p1), .val (.long q2), .second, .val (.ref b1), .val (.int o4), .val (.long n4), .second, .val (.int r4), .unset, .unset, .unset, .unset] []) := by
          intro T h o4 n4 r4 S E_b1 F_b1_open F_b1_openings
          refine Goes.go (fun _ => XS.iloadN S.here B.x rfl (B.d at_162) rfl) ?_
          show Goes _ _ _ _ T (mkF m 163 #[.val (.int p0), .val (.int p1), .val (.long q2), .second, .val (.ref b1), .val (.int o4), .val (.long n4), .second, .val (.int r4), .unset, .unset, .unset, .unset] [(.int p1)])
          refine Goes.go (fun _ => XS.iconst S.here B.x rfl (B.d at_163)) ?_
          show Goes _ _ _ _ T (mkF m 164 #[.val (.int p0), .val (.int p1), .val (.long q2), .second, .val (.ref b1), .val (.int o4), .val (.long n4), .second, .val (.int r4), .unset, .unset, .unset, .unset] [(.int (3 : Int32)), (.int p1)])
          refine Goes.go (fun _ => XS.iand S.here B.x rfl (B.d at_164) rfl) ?_
          show Goes _ _ _ _ T (mkF m 165 #[.val (.int p0), .val (.int p1), .val (.long q2), .second, .val (.ref b1), .val (.int o4), .val (.long n4), .second, .val (.int r4), .unset, .unset, .unset, .unset] [(.int (p1 &&& (3 : Int32)))])
          refine Goes.go (fun _ => XS.istore S.here B.x rfl (B.d at_165) rfl (l' := #[.val (.int p0), .val (.int p1), .val (.long q2), .second, .val (.ref b1), .val (.int o4), .val (.long n4), .second, .val (.int r4), .val (.int (p1 &&& (3 : Int32))), .unset, .unset, .unset]) rfl) ?_
          show Goes _ _ _ _ T (mkF m 167 #[.val (.int p0), .val (.int p1), .val (.long q2), .second, .val (.ref b1), .val (.int o4), .val (.long n4), .second, .val (.int r4), .val (.int (p1 &&& (3 : Int32))), .unset, .unset, .unset] [])
          have J6 : ∀ (T : State) (w5 : Int64), Sd p l e room_1 s m #[(.int p0), (.int p1), (.long q2)] below meth c T h n0 1 4 → Goes p.tables e below (Fine s n0 (Q_rm0 Z p0 p1 q2 h0 n0) room_1.cells room_1.slots) T (mkF m 212 #[.val (.int p0), .val (.int p1), .val (.long q2), .second, .val (.ref b1), .val (.int o4), .val (.long n4), .second, .val (.int r4), .val (.int (p1 &&& (3 : Int32))), .val (.long w5), .second, .unset] []) := by
            intro T w5 S
            refine Goes.go (fun _ => XS.iload S.here B.x rfl (B.d at_212) rfl) ?_
            show Goes _ _ _ _ T (mkF m 214 #[.val (.int p0), .val (.int p1), .val (.long q2), .second, .val (.ref b1), .val (.int o4), .val (.long n4), .second, .val (.int r4), .val (.int (p1 &&& (3 : Int32))), .val (.long w5), .second, .unset] [(.int o4)])
            by_cases hc214 : o4 = (0 : Int32)
            · skip
              refine Goes.go (fun _ => XS.ifYes S.here B.x rfl (pc0 := 214) (pc' := 229) rfl (B.d at_214) rfl ((if0 _ _).trans (teq hc214).1) (by decide) (by decide)) ?_
              show Goes _ _ _ _ T (mkF m 229 #[.val (.int p0), .val (.int p1), .val (.long q2), .second, .val (.ref b1), .val (.int o4), .val (.long n4), .second, .val (.int r4), .val (.int (p1 &&& (3 : Int32))), .val (.long w5), .second, .unset] [])
              refine Goes.go (fun _ => XS.iconst S.here B.x rfl (B.d at_229)) ?_
              show Goes _ _ _ _ T (mkF m 230 #[.val (.int p0), .val (.int p1), .val (.long q2), .second, .val (.ref b1), .val (.int o4), .val (.long n4), .second, .val (.int r4), .val (.int (p1 &&& (3 : Int32))), .val (.long w5), .second, .unset] [(.int (0 : Int32))])
              refine Goes.go (fun _ => XS.istore S.here B.x rfl (B.d at_230) rfl (l' := #[.val (.int p0), .val (.int p1), .val (.long q2), .second, .val (.ref b1), .val (.int o4), .val (.long n4), .second, .val (.int r4), .val (.int (p1 &&& (3 : Int32))), .val (.long w5), .second, .val (.int (0 : Int32))]) rfl) ?_
              show Goes _ _ _ _ T (mkF m 232 #[.val (.int p0), .val (.int p1), .val (.long q2), .second, .val (.ref b1), .val (.int o4), .val (.long n4), .second, .val (.int r4), .val (.int (p1 &&& (3 : Int32))), .val (.long w5), .second, .val (.int (0 : Int32))] [])
              refine Goes.go (fun _ => XS.aload S.here B.x rfl (B.d at_232) rfl rfl) ?_
              show Goes _ _ _ _ T (mkF m 234 #[.val (.int p0), .val (.int p1), .val (.long q2), .second, .val (.ref b1), .val (.int o4), .val (.long n4), .second, .val (.int r4), .val (.int (p1 &&& (3 : Int32))), .val (.long w5), .second, .val (.int (0 : Int32))] [(.ref b1)])
              refine Goes.go (fun _ => XS.lload S.here B.x rfl (B.d at_234) rfl) ?_
              show Goes _ _ _ _ T (mkF m 236 #[.val (.int p0), .val (.int p1), .val (.long q2), .second, .val (.ref b1), .val (.int o4), .val (.long n4), .second, .val (.int r4), .val (.int (p1 &&& (3 : Int32))), .val (.long w5), .second, .val (.int (0 : Int32))] [(.long w5), (.ref b1)])
              refine Goes.callV (argsL := [(.long w5)]) (rest := []) (W := 0) S B (rm_carries l Z aw hw b1 w5 o4 n4 _ n0 F_b1_open F_b1_openings) E_b1 (w16 hw) (w17 hw) (w19 hw) (w18 hw) (w2 hw) (w20 hw) (by decide) (by decide) (by decide) (by decide) (by decide) rfl (lenOf pd_1 rfl) rfl (Nat.le_of_eq rfl) at_236 ?_
              intro v T h S hQ
              obtain ⟨rfl, hh⟩ := hQ
              replace hh := hh.symm
              subst hh
              show Goes _ _ _ _ T (mkF m 239 #[.val (.int p0), .val (.int p1), .val (.long q2), .second, .val (.ref b1), .val (.int o4), .val (.long n4), .second, .val (.int r4), .val (.int (p1 &&& (3 : Int32))), .val (.long w5), .second, .val (.int (0 : Int32))] [(.int (bi (¬ o4 = (0 : Int32) ∧ w5 = n4)))])
              refine Goes.go (fun _ => XS.iload S.here B.x rfl (B.d at_239) rfl) ?_
              show Goes _ _ _ _ T (mkF m 241 #[.val (.int p0), .val (.int p1), .val (.long q2), .second, .val (.ref b1), .val (.int o4), .val (.long n4), .second, .val (.int r4), .val (.int (p1 &&& (3 : Int32))), .val (.long w5), .second, .val (.int (0 : Int32))] [(.int (0 : Int32)), (.int (bi (¬ o4 = (0 : Int32) ∧ w5 = n4)))])
              refine Goes.go (fun _ => XS.icmpNo S.here B.x rfl (B.d at_241) rfl (teq (show (bi (¬ o4 = (0 : Int32) ∧ w5 = n4)) = (0 : Int32) from bi_neg (fun z => z.1 hc214))).2) ?_
              show Goes _ _ _ _ T (mkF m 244 #[.val (.int p0), .val (.int p1), .val (.long q2), .second, .val (.ref b1), .val (.int o4), .val (.long n4), .second, .val (.int r4), .val (.int (p1 &&& (3 : Int32))), .val (.long w5), .second, .val (.int (0 : Int32))] [])
              refine Goes.go (fun _ => XS.iconst S.here B.x rfl (B.d at_244)) ?_
              show Goes _ _ _ _ T (mkF m 245 #[.val (.int p0), .val (.int p1), .val (.long q2), .second, .val (.ref b1), .val (.int o4), .val (.long n4), .second, .val (.int r4), .val (.int (p1 &&& (3 : Int32))), .val (.long w5), .second, .val (.int (0 : Int32))] [(.int (1 : Int32))])
              refine Goes.go (fun _ => XS.goto S.here B.x rfl (pc0 := 245) (pc' := 249) rfl (B.d at_245) (by decide) (by decide)) ?_
              show Goes _ _ _ _ T (mkF m 249 #[.val (.int p0), .val (.int p1), .val (.long q2), .second, .val (.ref b1), .val (.int o4), .val (.long n4), .second, .val (.int r4), .val (.int (p1 &&& (3 : Int32))), .val (.long w5), .second, .val (.int (0 : Int32))] [(.int (1 : Int32))])
              refine Goes.retN S B (by simp) at_249 (by decide) (by decide) ?_
              exact rfl
            · skip
              refine Goes.go (fun _ => XS.ifNo S.here B.x rfl (B.d at_214) rfl ((if0 _ _).trans (feq hc214).1)) ?_
              show Goes _ _ _ _ T (mkF m 217 #[.val (.int p0), .val (.int p1), .val (.long q2), .second, .val (.ref b1), .val (.int o4), .val (.long n4), .second, .val (.int r4), .val (.int (p1 &&& (3 : Int32))), .val (.long w5), .second, .unset] [])
              refine Goes.go (fun _ => XS.lload S.here B.x rfl (B.d at_217) rfl) ?_
              show Goes _ _ _ _ T (mkF m 219 #[.val (.int p0), .val (.int p1), .val (.long q2), .second, .val (.ref b1), .val (.int o4), .val (.long n4), .second, .val (.int r4), .val (.int (p1 &&& (3 : Int32))), .val (.long w5), .second, .unset] [(.long w5)])
              refine Goes.go (fun _ => XS.lload S.here B.x rfl (B.d at_219) rfl) ?_
              show Goes _ _ _ _ T (mkF m 221 #[.val (.int p0), .val (.int p1), .val (.long q2), .second, .val (.ref b1), .val (.int o4), .val (.long n4), .second, .val (.int r4), .val (.int (p1 &&& (3 : Int32))), .val (.long w5), .second, .unset] [(.long n4), (.long w5)])
              refine Goes.go (fun _ => XS.lcmp S.here B.x rfl (B.d at_221) rfl) ?_
              show Goes _ _ _ _ T (mkF m 222 #[.val (.int p0), .val (.int p1), .val (.long q2), .second, .val (.ref b1), .val (.int o4), .val (.long n4), .second, .val (.int r4), .val (.int (p1 &&& (3 : Int32))), .val (.long w5), .second, .unset] [(.int (lcmpW w5 n4))])
              refine Goes.dia (P := w5 = n4) (mk := fun z => (mkF m 230 #[.val (.int p0), .val (.int p1), .val (.long q2), .second, .val (.ref b1), .val (.int o4), .val (.long n4), .second, .val (.int r4), .val (.int (p1 &&& (3 : Int32))), .val (.long w5), .second, .unset] [(.int z)])) (fun hc222 kk => ?_) (fun hc222 kk => ?_) ?_
              · skip
                refine Goes.go (fun _ => XS.ifNo S.here B.x rfl (B.d at_222) rfl ((if0 _ _).trans (teq ((lw_eq w5 n4).mpr hc222)).2)) ?_
                show Goes _ _ _ _ T (mkF m 225 #[.val (.int p0), .val (.int p1), .val (.long q2), .second, .val (.ref b1), .val (.int o4), .val (.long n4), .second, .val (.int r4), .val (.int (p1 &&& (3 : Int32))), .val (.long w5), .second, .unset] [])
                refine Goes.go (fun _ => XS.iconst S.here B.x rfl (B.d at_225)) ?_
                show Goes _ _ _ _ T (mkF m 226 #[.val (.int p0), .val (.int p1), .val (.long q2), .second, .val (.ref b1), .val (.int o4), .val (.long n4), .second, .val (.int r4), .val (.int (p1 &&& (3 : Int32))), .val (.long w5), .second, .unset] [(.int (1 : Int32))])
                refine Goes.go (fun _ => XS.goto S.here B.x rfl (pc0 := 226) (pc' := 230) rfl (B.d at_226) (by decide) (by decide)) ?_
                show Goes _ _ _ _ T (mkF m 230 #[.val (.int p0), .val (.int p1), .val (.long q2), .second, .val (.ref b1), .val (.int o4), .val (.long n4), .second, .val (.int r4), .val (.int (p1 &&& (3 : Int32))), .val (.long w5), .second, .unset] [(.int (1 : Int32))])
                exact kk
              · skip
                refine Goes.go (fun _ => XS.ifYes S.here B.x rfl (pc0 := 222) (pc' := 229) rfl (B.d at_222) rfl ((if0 _ _).trans (feq (mt (lw_eq w5 n4).mp hc222)).2) (by decide) (by decide)) ?_
                show Goes _ _ _ _ T (mkF m 229 #[.val (.int p0), .val (.int p1), .val (.long q2), .second, .val (.ref b1), .val (.int o4), .val (.long n4), .second, .val (.int r4), .val (.int (p1 &&& (3 : Int32))), .val (.long w5), .second, .unset] [])
                refine Goes.go (fun _ => XS.iconst S.here B.x rfl (B.d at_229)) ?_
                show Goes _ _ _ _ T (mkF m 230 #[.val (.int p0), .val (.int p1), .val (.long q2), .second, .val (.ref b1), .val (.int o4), .val (.long n4), .second, .val (.int r4), .val (.int (p1 &&& (3 : Int32))), .val (.long w5), .second, .unset] [(.int (0 : Int32))])
                exact kk
              show Goes _ _ _ _ T (mkF m 230 #[.val (.int p0), .val (.int p1), .val (.long q2), .second, .val (.ref b1), .val (.int o4), .val (.long n4), .second, .val (.int r4), .val (.int (p1 &&& (3 : Int32))), .val (.long w5), .second, .unset] [(.int (bi (w5 = n4)))])
              refine Goes.go (fun _ => XS.istore S.here B.x rfl (B.d at_230) rfl (l' := #[.val (.int p0), .val (.int p1), .val (.long q2), .second, .val (.ref b1), .val (.int o4), .val (.long n4), .second, .val (.int r4), .val (.int (p1 &&& (3 : Int32))), .val (.long w5), .second, .val (.int (bi (w5 = n4)))]) rfl) ?_
              show Goes _ _ _ _ T (mkF m 232 #[.val (.int p0), .val (.int p1), .val (.long q2), .second, .val (.ref b1), .val (.int o4), .val (.long n4), .second, .val (.int r4), .val (.int (p1 &&& (3 : Int32))), .val (.long w5), .second, .val (.int (bi (w5 = n4)))] [])
              refine Goes.go (fun _ => XS.aload S.here B.x rfl (B.d at_232) rfl rfl) ?_
              show Goes _ _ _ _ T (mkF m 234 #[.val (.int p0), .val (.int p1), .val (.long q2), .second, .val (.ref b1), .val (.int o4), .val (.long n4), .second, .val (.int r4), .val (.int (p1 &&& (3 : Int32))), .val (.long w5), .second, .val (.int (bi (w5 = n4)))] [(.ref b1)])
              refine Goes.go (fun _ => XS.lload S.here B.x rfl (B.d at_234) rfl) ?_
              show Goes _ _ _ _ T (mkF m 236 #[.val (.int p0), .val (.int p1), .val (.long q2), .second, .val (.ref b1), .val (.int o4), .val (.long n4), .second, .val (.int r4), .val (.int (p1 &&& (3 : Int32))), .val (.long w5), .second, .val (.int (bi (w5 = n4)))] [(.long w5), (.ref b1)])
              refine Goes.callV (argsL := [(.long w5)]) (rest := []) (W := 0) S B (rm_carries l Z aw hw b1 w5 o4 n4 _ n0 F_b1_open F_b1_openings) E_b1 (w16 hw) (w17 hw) (w19 hw) (w18 hw) (w2 hw) (w20 hw) (by decide) (by decide) (by decide) (by decide) (by decide) rfl (lenOf pd_1 rfl) rfl (Nat.le_of_eq rfl) at_236 ?_
              intro v T h S hQ
              obtain ⟨rfl, hh⟩ := hQ
              replace hh := hh.symm
              subst hh
              show Goes _ _ _ _ T (mkF m 239 #[.val (.int p0), .val (.int p1), .val (.long q2), .second, .val (.ref b1), .val (.int o4), .val (.long n4), .second, .val (.int r4), .val (.int (p1 &&& (3 : Int32))), .val (.long w5), .second, .val (.int (bi (w5 = n4)))] [(.int (bi (¬ o4 = (0 : Int32) ∧ w5 = n4)))])
              refine Goes.go (fun _ => XS.iload S.here B.x rfl (B.d at_239) rfl) ?_
              show Goes _ _ _ _ T (mkF m 241 #[.val (.int p0), .val (.int p1), .val (.long q2), .second, .val (.ref b1), .val (.int o4), .val (.long n4), .second, .val (.int r4), .val (.int (p1 &&& (3 : Int32))), .val (.long w5), .second, .val (.int (bi (w5 = n4)))] [(.int (bi (w5 = n4))), (.int (bi (¬ o4 = (0 : Int32) ∧ w5 = n4)))])
              refine Goes.go (fun _ => XS.icmpNo S.here B.x rfl (B.d at_241) rfl (teq (show (bi (¬ o4 = (0 : Int32) ∧ w5 = n4)) = (bi (w5 = n4)) from bi_congr ⟨fun z => z.2, fun z => ⟨hc214, z⟩⟩)).2) ?_
              show Goes _ _ _ _ T (mkF m 244 #[.val (.int p0), .val (.int p1), .val (.long q2), .second, .val (.ref b1), .val (.int o4), .val (.long n4), .second, .val (.int r4), .val (.int (p1 &&& (3 : Int32))), .val (.long w5), .second, .val (.int (bi (w5 = n4)))] [])
              refine Goes.go (fun _ => XS.iconst S.here B.x rfl (B.d at_244)) ?_
              show Goes _ _ _ _ T (mkF m 245 #[.val (.int p0), .val (.int p1), .val (.long q2), .second, .val (.ref b1), .val (.int o4), .val (.long n4), .second, .val (.int r4), .val (.int (p1 &&& (3 : Int32))), .val (.long w5), .second, .val (.int (bi (w5 = n4)))] [(.int (1 : Int32))])
              refine Goes.go (fun _ => XS.goto S.here B.x rfl (pc0 := 245) (pc' := 249) rfl (B.d at_245) (by decide) (by decide)) ?_
              show Goes _ _ _ _ T (mkF m 249 #[.val (.int p0), .val (.int p1), .val (.long q2), .second, .val (.ref b1), .val (.int o4), .val (.long n4), .second, .val (.int r4), .val (.int (p1 &&& (3 : Int32))), .val (.long w5), .second, .val (.int (bi (w5 = n4)))] [(.int (1 : Int32))])
              refine Goes.retN S B (by simp) at_249 (by decide) (by decide) ?_
              exact rfl
          refine Goes.go (fun _ => XS.iload S.here B.x rfl (B.d at_167) rfl) ?_
          show Goes _ _ _ _ T (mkF m 169 #[.val (.int p0), .val (.int p1), .val (.long q2), .second, .val (.ref b1), .val (.int o4), .val (.long n4), .second, .val (.int r4), .val (.int (p1 &&& (3 : Int32))), .unset, .unset, .unset] [(.int (p1 &&& (3 : Int32)))])
          by_cases hc169 : (p1 &&& (3 : Int32)) = (0 : Int32)
          · skip
            refine Goes.go (fun _ => XS.ifNo S.here B.x rfl (B.d at_169) rfl ((if0 _ _).trans (teq hc169).2)) ?_
            show Goes _ _ _ _ T (mkF m 172 #[.val (.int p0), .val (.int p1), .val (.long q2), .second, .val (.ref b1), .val (.int o4), .val (.long n4), .second, .val (.int r4), .val (.int (p1 &&& (3 : Int32))), .unset, .unset, .unset] [])
            refine Goes.go (fun _ => XS.lloadN S.here B.x rfl (B.d at_172) rfl) ?_
            show Goes _ _ _ _ T (mkF m 173 #[.val (.int p0), .val (.int p1), .val (.long q2), .second, .val (.ref b1), .val (.int o4), .val (.long n4), .second, .val (.int r4), .val (.int (p1 &&& (3 : Int32))), .unset, .unset, .unset] [(.long q2)])
            refine Goes.go (fun _ => XS.lstore S.here B.x rfl (B.d at_173) rfl (l' := #[.val (.int p0), .val (.int p1), .val (.long q2), .second, .val (.ref b1), .val (.int o4), .val (.long n4), .second, .val (.int r4), .val (.int (p1 &&& (3 : Int32))), .val (.long q2), .second, .unset]) rfl) ?_
            show Goes _ _ _ _ T (mkF m 175 #[.val (.int p0), .val (.int p1), .val (.long q2), .second, .val (.ref b1), .val (.int o4), .val (.long n4), .second, .val (.int r4), .val (.int (p1 &&& (3 : Int32))), .val (.long q2), .second, .unset] [])
            refine Goes.go (fun _ => XS.goto S.here B.x rfl (pc0 := 175) (pc' := 212) rfl (B.d at_175) (by decide) (by decide)) ?_
            show Goes _ _ _ _ T (mkF m 212 #[.val (.int p0), .val (.int p1), .val (.long q2), .second, .val (.ref b1), .val (.int o4), .val (.long n4), .second, .val (.int r4), .val (.int (p1 &&& (3 : Int32))), .val (.long q2), .second, .unset] [])
            exact J6 T q2 S
          · skip
            refine Goes.go (fun _ => XS.ifYes S.here B.x rfl (pc0 := 169) (pc' := 178) rfl (B.d at_169) rfl ((if0 _ _).trans (feq hc169).2) (by decide) (by decide)) ?_
            show Goes _ _ _ _ T (mkF m 178 #[.val (.int p0), .val (.int p1), .val (.long q2), .second, .val (.ref b1), .val (.int o4), .val (.long n4), .second, .val (.int r4), .val (.int (p1 &&& (3 : Int32))), .unset, .unset, .unset] [])
            refine Goes.go (fun _ => XS.iload S.here B.x rfl (B.d at_178) rfl) ?_
            show Goes _ _ _ _ T (mkF m 180 #[.val (.int p0), .val (.int p1), .val (.long q2), .second, .val (.ref b1), .val (.int o4), .val (.long n4), .second, .val (.int r4), .val (.int (p1 &&& (3 : Int32))), .unset, .unset, .unset] [(.int (p1 &&& (3 : Int32)))])
            refine Goes.go (fun _ => XS.iconst S.here B.x rfl (B.d at_180)) ?_
            show Goes _ _ _ _ T (mkF m 181 #[.val (.int p0), .val (.int p1), .val (.long q2), .second, .val (.ref b1), .val (.int o4), .val (.long n4), .second, .val (.int r4), .val (.int (p1 &&& (3 : Int32))), .unset, .unset, .unset] [(.int (1 : Int32)), (.int (p1 &&& (3 : Int32)))])
            by_cases hc181 : (p1 &&& (3 : Int32)) = (1 : Int32)
            · skip
              refine Goes.go (fun _ => XS.icmpNo S.here B.x rfl (B.d at_181) rfl (teq hc181).2) ?_
              show Goes _ _ _ _ T (mkF m 184 #[.val (.int p0), .val (.int p1), .val (.long q2), .second, .val (.ref b1), .val (.int o4), .val (.long n4), .second, .val (.int r4), .val (.int (p1 &&& (3 : Int32))), .unset, .unset, .unset] [])
              refine Goes.go (fun _ => XS.lload S.here B.x rfl (B.d at_184) rfl) ?_
              show Goes _ _ _ _ T (mkF m 186 #[.val (.int p0), .val (.int p1), .val (.long q2), .second, .val (.ref b1), .val (.int o4), .val (.long n4), .second, .val (.int r4), .val (.int (p1 &&& (3 : Int32))), .unset, .unset, .unset] [(.long n4)])
              refine Goes.go (fun _ => XS.lstore S.here B.x rfl (B.d at_186) rfl (l' := #[.val (.int p0), .val (.int p1), .val (.long q2), .second, .val (.ref b1), .val (.int o4), .val (.long n4), .second, .val (.int r4), .val (.int (p1 &&& (3 : Int32))), .val (.long n4), .second, .unset]) rfl) ?_
              show Goes _ _ _ _ T (mkF m 188 #[.val (.int p0), .val (.int p1), .val (.long q2), .second, .val (.ref b1), .val (.int o4), .val (.long n4), .second, .val (.int r4), .val (.int (p1 &&& (3 : Int32))), .val (.long n4), .second, .unset] [])
              refine Goes.go (fun _ => XS.goto S.here B.x rfl (pc0 := 188) (pc' := 212) rfl (B.d at_188) (by decide) (by decide)) ?_
              show Goes _ _ _ _ T (mkF m 212 #[.val (.int p0), .val (.int p1), .val (.long q2), .second, .val (.ref b1), .val (.int o4), .val (.long n4), .second, .val (.int r4), .val (.int (p1 &&& (3 : Int32))), .val (.long n4), .second, .unset] [])
              exact J6 T n4 S
            · skip
              refine Goes.go (fun _ => XS.icmpYes S.here B.x rfl (pc0 := 181) (pc' := 191) rfl (B.d at_181) rfl (feq hc181).2 (by decide) (by decide)) ?_
              show Goes _ _ _ _ T (mkF m 191 #[.val (.int p0), .val (.int p1), .val (.long q2), .second, .val (.ref b1), .val (.int o4), .val (.long n4), .second, .val (.int r4), .val (.int (p1 &&& (3 : Int32))), .unset, .unset, .unset] [])
              refine Goes.go (fun _ => XS.iload S.here B.x rfl (B.d at_191) rfl) ?_
              show Goes _ _ _ _ T (mkF m 193 #[.val (.int p0), .val (.int p1), .val (.long q2), .second, .val (.ref b1), .val (.int o4), .val (.long n4), .second, .val (.int r4), .val (.int (p1 &&& (3 : Int32))), .unset, .unset, .unset] [(.int (p1 &&& (3 : Int32)))])
              refine Goes.go (fun _ => XS.iconst S.here B.x rfl (B.d at_193)) ?_
              show Goes _ _ _ _ T (mkF m 194 #[.val (.int p0), .val (.int p1), .val (.long q2), .second, .val (.ref b1), .val (.int o4), .val (.long n4), .second, .val (.int r4), .val (.int (p1 &&& (3 : Int32))), .unset, .unset, .unset] [(.int (2 : Int32)), (.int (p1 &&& (3 : Int32)))])
              by_cases hc194 : (p1 &&& (3 : Int32)) = (2 : Int32)
              · skip
                refine Goes.go (fun _ => XS.icmpNo S.here B.x rfl (B.d at_194) rfl (teq hc194).2) ?_
                show Goes _ _ _ _ T (mkF m 197 #[.val (.int p0), .val (.int p1), .val (.long q2), .second, .val (.ref b1), .val (.int o4), .val (.long n4), .second, .val (.int r4), .val (.int (p1 &&& (3 : Int32))), .unset, .unset, .unset] [])
                refine Goes.go (fun _ => XS.lload S.here B.x rfl (B.d at_197) rfl) ?_
                show Goes _ _ _ _ T (mkF m 199 #[.val (.int p0), .val (.int p1), .val (.long q2), .second, .val (.ref b1), .val (.int o4), .val (.long n4), .second, .val (.int r4), .val (.int (p1 &&& (3 : Int32))), .unset, .unset, .unset] [(.long n4)])
                refine Goes.go (fun _ => XS.lconst S.here B.x rfl (B.d at_199)) ?_
                show Goes _ _ _ _ T (mkF m 200 #[.val (.int p0), .val (.int p1), .val (.long q2), .second, .val (.ref b1), .val (.int o4), .val (.long n4), .second, .val (.int r4), .val (.int (p1 &&& (3 : Int32))), .unset, .unset, .unset] [(.long (1 : Int64)), (.long n4)])
                refine Goes.go (fun _ => XS.lsub S.here B.x rfl (B.d at_200) rfl) ?_
                show Goes _ _ _ _ T (mkF m 201 #[.val (.int p0), .val (.int p1), .val (.long q2), .second, .val (.ref b1), .val (.int o4), .val (.long n4), .second, .val (.int r4), .val (.int (p1 &&& (3 : Int32))), .unset, .unset, .unset] [(.long (n4 - (1 : Int64)))])
                refine Goes.go (fun _ => XS.lstore S.here B.x rfl (B.d at_201) rfl (l' := #[.val (.int p0), .val (.int p1), .val (.long q2), .second, .val (.ref b1), .val (.int o4), .val (.long n4), .second, .val (.int r4), .val (.int (p1 &&& (3 : Int32))), .val (.long (n4 - (1 : Int64))), .second, .unset]) rfl) ?_
                show Goes _ _ _ _ T (mkF m 203 #[.val (.int p0), .val (.int p1), .val (.long q2), .second, .val (.ref b1), .val (.int o4), .val (.long n4), .second, .val (.int r4), .val (.int (p1 &&& (3 : Int32))), .val (.long (n4 - (1 : Int64))), .second, .unset] [])
                refine Goes.go (fun _ => XS.goto S.here B.x rfl (pc0 := 203) (pc' := 212) rfl (B.d at_203) (by decide) (by decide)) ?_
                show Goes _ _ _ _ T (mkF m 212 #[.val (.int p0), .val (.int p1), .val (.long q2), .second, .val (.ref b1), .val (.int o4), .val (.long n4), .second, .val (.int r4), .val (.int (p1 &&& (3 : Int32))), .val (.long (n4 - (1 : Int64))), .second, .unset] [])
                exact J6 T (n4 - (1 : Int64)) S
              · skip
                refine Goes.go (fun _ => XS.icmpYes S.here B.x rfl (pc0 := 194) (pc' := 206) rfl (B.d at_194) rfl (feq hc194).2 (by decide) (by decide)) ?_
                show Goes _ _ _ _ T (mkF m 206 #[.val (.int p0), .val (.int p1), .val (.long q2), .second, .val (.ref b1), .val (.int o4), .val (.long n4), .second, .val (.int r4), .val (.int (p1 &&& (3 : Int32))), .unset, .unset, .unset] [])
                refine Goes.go (fun _ => XS.lload S.here B.x rfl (B.d at_206) rfl) ?_
                show Goes _ _ _ _ T (mkF m 208 #[.val (.int p0), .val (.int p1), .val (.long q2), .second, .val (.ref b1), .val (.int o4), .val (.long n4), .second, .val (.int r4), .val (.int (p1 &&& (3 : Int32))), .unset, .unset, .unset] [(.long n4)])
                refine Goes.go (fun _ => XS.lconst S.here B.x rfl (B.d at_208)) ?_
                show Goes _ _ _ _ T (mkF m 209 #[.val (.int p0), .val (.int p1), .val (.long q2), .second, .val (.ref b1), .val (.int o4), .val (.long n4), .second, .val (.int r4), .val (.int (p1 &&& (3 : Int32))), .unset, .unset, .unset] [(.long (1 : Int64)), (.long n4)])
                refine Goes.go (fun _ => XS.ladd S.here B.x rfl (B.d at_209) rfl) ?_
                show Goes _ _ _ _ T (mkF m 210 #[.val (.int p0), .val (.int p1), .val (.long q2), .second, .val (.ref b1), .val (.int o4), .val (.long n4), .second, .val (.int r4), .val (.int (p1 &&& (3 : Int32))), .unset, .unset, .unset] [(.long (n4 + (1 : Int64)))])
                refine Goes.go (fun _ => XS.lstore S.here B.x rfl (B.d at_210) rfl (l' := #[.val (.int p0), .val (.int p1), .val (.long q2), .second, .val (.ref b1), .val (.int o4), .val (.long n4), .second, .val (.int r4), .val (.int (p1 &&& (3 : Int32))), .val (.long (n4 + (1 : Int64))), .second, .unset]) rfl) ?_
                show Goes _ _ _ _ T (mkF m 212 #[.val (.int p0), .val (.int p1), .val (.long q2), .second, .val (.ref b1), .val (.int o4), .val (.long n4), .second, .val (.int r4), .val (.int (p1 &&& (3 : Int32))), .val (.long (n4 + (1 : Int64))), .second, .unset] [])
                exact J6 T (n4 + (1 : Int64)) S
        refine Goes.go (fun _ => XS.aload S.here B.x rfl (B.d at_124) rfl rfl) ?_
        show Goes _ _ _ _ T (mkF m 126 #[.val (.int p0), .val (.int p1), .val (.long q2), .second, .val (.ref b1), .val (.int o3), .val (.long n3), .second, .val (.int r3), .unset, .unset, .unset, .unset] [(.ref b1)])
        refine Goes.go (fun _ => XS.iloadN S.here B.x rfl (B.d at_126) rfl) ?_
        show Goes _ _ _ _ T (mkF m 127 #[.val (.int p0), .val (.int p1), .val (.long q2), .second, .val (.ref b1), .val (.int o3), .val (.long n3), .second, .val (.int r3), .unset, .unset, .unset, .unset] [(.int p0), (.ref b1)])
        refine Goes.go (fun _ => XS.bipush S.here B.x rfl (B.d at_127)) ?_
        show Goes _ _ _ _ T (mkF m 129 #[.val (.int p0), .val (.int p1), .val (.long q2), .second, .val (.ref b1), .val (.int o3), .val (.long n3), .second, .val (.int r3), .unset, .unset, .unset, .unset] [(.int (6 : Int32)), (.int p0), (.ref b1)])
        refine Goes.go (fun _ => XS.iushr S.here B.x rfl (B.d at_129) rfl) ?_
        show Goes _ _ _ _ T (mkF m 130 #[.val (.int p0), .val (.int p1), .val (.long q2), .second, .val (.ref b1), .val (.int o3), .val (.long n3), .second, .val (.int r3), .unset, .unset, .unset, .unset] [(.int ((p0.toUInt32 >>> ((6 : Int32) &&& 31).toUInt32).toInt32)), (.ref b1)])
        refine Goes.callS (argsL := [(.ref b1), (.int ((p0.toUInt32 >>> ((6 : Int32) &&& 31).toUInt32).toInt32))]) (rest := []) (W := 0) S B (rm_step l Z aw hw b1 ((p0.toUInt32 >>> ((6 : Int32) &&& 31).toUInt32).toInt32) o3 n3 _ n0 E_b1 F_b1_open F_b1_openings g_b1) (w12 hw) (w13 hw) (w14 hw) (w15 hw) (by decide) (by decide) (by decide) (by decide) (by decide) rfl (lenOf pd_2 rfl) rfl (Nat.le_of_eq rfl) at_130 ?_
        intro v T h S hQ
        obtain ⟨u7, u8, u9, rfl, Kc, E_b1', F_b1_open', F_b1_openings', hr_130⟩ := hQ
        replace E_b1 := E_b1'
        replace F_b1_open := F_b1_open'
        replace F_b1_openings := F_b1_openings'
        show Goes _ _ _ _ T (mkF m 133 #[.val (.int p0), .val (.int p1), .val (.long q2), .second, .val (.ref b1), .val (.int o3), .val (.long n3), .second, .val (.int r3), .unset, .unset, .unset, .unset] [(.int u7)])
        rcases hr_130 with ⟨rfl, rfl, rfl⟩ | ⟨rfl, rfl, rfl⟩ | ⟨rfl, rfl, rfl⟩
        · skip
          show Goes _ _ _ _ T (mkF m 133 #[.val (.int p0), .val (.int p1), .val (.long q2), .second, .val (.ref b1), .val (.int o3), .val (.long n3), .second, .val (.int r3), .unset, .unset, .unset, .unset] [(.int (0 : Int32))])
          refine Goes.go (fun _ => XS.istore S.here B.x rfl (B.d at_133) rfl (l' := #[.val (.int p0), .val (.int p1), .val (.long q2), .second, .val (.ref b1), .val (.int o3), .val (.long n3), .second, .val (.int (0 : Int32)), .unset, .unset, .unset, .unset]) rfl) ?_
          show Goes _ _ _ _ T (mkF m 135 #[.val (.int p0), .val (.int p1), .val (.long q2), .second, .val (.ref b1), .val (.int o3), .val (.long n3), .second, .val (.int (0 : Int32)), .unset, .unset, .unset, .unset] [])
          refine Goes.go (fun _ => XS.iload S.here B.x rfl (B.d at_135) rfl) ?_
          show Goes _ _ _ _ T (mkF m 137 #[.val (.int p0), .val (.int p1), .val (.long q2), .second, .val (.ref b1), .val (.int o3), .val (.long n3), .second, .val (.int (0 : Int32)), .unset, .unset, .unset, .unset] [(.int (0 : Int32))])
          refine Goes.go (fun _ => XS.iconst S.here B.x rfl (B.d at_137)) ?_
          show Goes _ _ _ _ T (mkF m 138 #[.val (.int p0), .val (.int p1), .val (.long q2), .second, .val (.ref b1), .val (.int o3), .val (.long n3), .second, .val (.int (0 : Int32)), .unset, .unset, .unset, .unset] [(.int (1 : Int32)), (.int (0 : Int32))])
          refine Goes.go (fun _ => XS.icmpYes S.here B.x rfl (pc0 := 138) (pc' := 153) rfl (B.d at_138) rfl (by decide) (by decide) (by decide)) ?_
          show Goes _ _ _ _ T (mkF m 153 #[.val (.int p0), .val (.int p1), .val (.long q2), .second, .val (.ref b1), .val (.int o3), .val (.long n3), .second, .val (.int (0 : Int32)), .unset, .unset, .unset, .unset] [])
          refine Goes.go (fun _ => XS.iload S.here B.x rfl (B.d at_153) rfl) ?_
          show Goes _ _ _ _ T (mkF m 155 #[.val (.int p0), .val (.int p1), .val (.long q2), .second, .val (.ref b1), .val (.int o3), .val (.long n3), .second, .val (.int (0 : Int32)), .unset, .unset, .unset, .unset] [(.int (0 : Int32))])
          refine Goes.go (fun _ => XS.iconst S.here B.x rfl (B.d at_155)) ?_
          show Goes _ _ _ _ T (mkF m 156 #[.val (.int p0), .val (.int p1), .val (.long q2), .second, .val (.ref b1), .val (.int o3), .val (.long n3), .second, .val (.int (0 : Int32)), .unset, .unset, .unset, .unset] [(.int (2 : Int32)), (.int (0 : Int32))])
          refine Goes.go (fun _ => XS.icmpYes S.here B.x rfl (pc0 := 156) (pc' := 162) rfl (B.d at_156) rfl (by decide) (by decide) (by decide)) ?_
          show Goes _ _ _ _ T (mkF m 162 #[.val (.int p0), .val (.int p1), .val (.long q2), .second, .val (.ref b1), .val (.int o3), .val (.long n3), .second, .val (.int (0 : Int32)), .unset, .unset, .unset, .unset] [])
          exact J5 T _ o3 n3 (0 : Int32) S E_b1 F_b1_open F_b1_openings
        · skip
          show Goes _ _ _ _ T (mkF m 133 #[.val (.int p0), .val (.int p1), .val (.long q2), .second, .val (.ref b1), .val (.int o3), .val (.long n3), .second, .val (.int r3), .unset, .unset, .unset, .unset] [(.int (1 : Int32))])
          refine Goes.go (fun _ => XS.istore S.here B.x rfl (B.d at_133) rfl (l' := #[.val (.int p0), .val (.int p1), .val (.long q2), .second, .val (.ref b1), .val (.int o3), .val (.long n3), .second, .val (.int (1 : Int32)), .unset, .unset, .unset, .unset]) rfl) ?_
          show Goes _ _ _ _ T (mkF m 135 #[.val (.int p0), .val (.int p1), .val (.long q2), .second, .val (.ref b1), .val (.int o3), .val (.long n3), .second, .val (.int (1 : Int32)), .unset, .unset, .unset, .unset] [])
          refine Goes.go (fun _ => XS.iload S.here B.x rfl (B.d at_135) rfl) ?_
          show Goes _ _ _ _ T (mkF m 137 #[.val (.int p0), .val (.int p1), .val (.long q2), .second, .val (.ref b1), .val (.int o3), .val (.long n3), .second, .val (.int (1 : Int32)), .unset, .unset, .unset, .unset] [(.int (1 : Int32))])
          refine Goes.go (fun _ => XS.iconst S.here B.x rfl (B.d at_137)) ?_
          show Goes _ _ _ _ T (mkF m 138 #[.val (.int p0), .val (.int p1), .val (.long q2), .second, .val (.ref b1), .val (.int o3), .val (.long n3), .second, .val (.int (1 : Int32)), .unset, .unset, .unset, .unset] [(.int (1 : Int32)), (.int (1 : Int32))])
          refine Goes.go (fun _ => XS.icmpNo S.here B.x rfl (B.d at_138) rfl (by decide)) ?_
          show Goes _ _ _ _ T (mkF m 141 #[.val (.int p0), .val (.int p1), .val (.long q2), .second, .val (.ref b1), .val (.int o3), .val (.long n3), .second, .val (.int (1 : Int32)), .unset, .unset, .unset, .unset] [])
          refine Goes.go (fun _ => XS.iconst S.here B.x rfl (B.d at_141)) ?_
          show Goes _ _ _ _ T (mkF m 142 #[.val (.int p0), .val (.int p1), .val (.long q2), .second, .val (.ref b1), .val (.int o3), .val (.long n3), .second, .val (.int (1 : Int32)), .unset, .unset, .unset, .unset] [(.int (1 : Int32))])
          refine Goes.go (fun _ => XS.istore S.here B.x rfl (B.d at_142) rfl (l' := #[.val (.int p0), .val (.int p1), .val (.long q2), .second, .val (.ref b1), .val (.int (1 : Int32)), .val (.long n3), .second, .val (.int (1 : Int32)), .unset, .unset, .unset, .unset]) rfl) ?_
          show Goes _ _ _ _ T (mkF m 144 #[.val (.int p0), .val (.int p1), .val (.long q2), .second, .val (.ref b1), .val (.int (1 : Int32)), .val (.long n3), .second, .val (.int (1 : Int32)), .unset, .unset, .unset, .unset] [])
          refine Goes.go (fun _ => XS.lload S.here B.x rfl (B.d at_144) rfl) ?_
          show Goes _ _ _ _ T (mkF m 146 #[.val (.int p0), .val (.int p1), .val (.long q2), .second, .val (.ref b1), .val (.int (1 : Int32)), .val (.long n3), .second, .val (.int (1 : Int32)), .unset, .unset, .unset, .unset] [(.long n3)])
          refine Goes.go (fun _ => XS.lconst S.here B.x rfl (B.d at_146)) ?_
          show Goes _ _ _ _ T (mkF m 147 #[.val (.int p0), .val (.int p1), .val (.long q2), .second, .val (.ref b1), .val (.int (1 : Int32)), .val (.long n3), .second, .val (.int (1 : Int32)), .unset, .unset, .unset, .unset] [(.long (1 : Int64)), (.long n3)])
          refine Goes.go (fun _ => XS.ladd S.here B.x rfl (B.d at_147) rfl) ?_
          show Goes _ _ _ _ T (mkF m 148 #[.val (.int p0), .val (.int p1), .val (.long q2), .second, .val (.ref b1), .val (.int (1 : Int32)), .val (.long n3), .second, .val (.int (1 : Int32)), .unset, .unset, .unset, .unset] [(.long (n3 + (1 : Int64)))])
          refine Goes.go (fun _ => XS.lstore S.here B.x rfl (B.d at_148) rfl (l' := #[.val (.int p0), .val (.int p1), .val (.long q2), .second, .val (.ref b1), .val (.int (1 : Int32)), .val (.long (n3 + (1 : Int64))), .second, .val (.int (1 : Int32)), .unset, .unset, .unset, .unset]) rfl) ?_
          show Goes _ _ _ _ T (mkF m 150 #[.val (.int p0), .val (.int p1), .val (.long q2), .second, .val (.ref b1), .val (.int (1 : Int32)), .val (.long (n3 + (1 : Int64))), .second, .val (.int (1 : Int32)), .unset, .unset, .unset, .unset] [])
          refine Goes.go (fun _ => XS.goto S.here B.x rfl (pc0 := 150) (pc' := 162) rfl (B.d at_150) (by decide) (by decide)) ?_
          show Goes _ _ _ _ T (mkF m 162 #[.val (.int p0), .val (.int p1), .val (.long q2), .second, .val (.ref b1), .val (.int (1 : Int32)), .val (.long (n3 + (1 : Int64))), .second, .val (.int (1 : Int32)), .unset, .unset, .unset, .unset] [])
          exact J5 T _ (1 : Int32) (n3 + (1 : Int64)) (1 : Int32) S E_b1 F_b1_open F_b1_openings
        · skip
          show Goes _ _ _ _ T (mkF m 133 #[.val (.int p0), .val (.int p1), .val (.long q2), .second, .val (.ref b1), .val (.int o3), .val (.long n3), .second, .val (.int r3), .unset, .unset, .unset, .unset] [(.int (2 : Int32))])
          refine Goes.go (fun _ => XS.istore S.here B.x rfl (B.d at_133) rfl (l' := #[.val (.int p0), .val (.int p1), .val (.long q2), .second, .val (.ref b1), .val (.int o3), .val (.long n3), .second, .val (.int (2 : Int32)), .unset, .unset, .unset, .unset]) rfl) ?_
          show Goes _ _ _ _ T (mkF m 135 #[.val (.int p0), .val (.int p1), .val (.long q2), .second, .val (.ref b1), .val (.int o3), .val (.long n3), .second, .val (.int (2 : Int32)), .unset, .unset, .unset, .unset] [])
          refine Goes.go (fun _ => XS.iload S.here B.x rfl (B.d at_135) rfl) ?_
          show Goes _ _ _ _ T (mkF m 137 #[.val (.int p0), .val (.int p1), .val (.long q2), .second, .val (.ref b1), .val (.int o3), .val (.long n3), .second, .val (.int (2 : Int32)), .unset, .unset, .unset, .unset] [(.int (2 : Int32))])
          refine Goes.go (fun _ => XS.iconst S.here B.x rfl (B.d at_137)) ?_
          show Goes _ _ _ _ T (mkF m 138 #[.val (.int p0), .val (.int p1), .val (.long q2), .second, .val (.ref b1), .val (.int o3), .val (.long n3), .second, .val (.int (2 : Int32)), .unset, .unset, .unset, .unset] [(.int (1 : Int32)), (.int (2 : Int32))])
          refine Goes.go (fun _ => XS.icmpYes S.here B.x rfl (pc0 := 138) (pc' := 153) rfl (B.d at_138) rfl (by decide) (by decide) (by decide)) ?_
          show Goes _ _ _ _ T (mkF m 153 #[.val (.int p0), .val (.int p1), .val (.long q2), .second, .val (.ref b1), .val (.int o3), .val (.long n3), .second, .val (.int (2 : Int32)), .unset, .unset, .unset, .unset] [])
          refine Goes.go (fun _ => XS.iload S.here B.x rfl (B.d at_153) rfl) ?_
          show Goes _ _ _ _ T (mkF m 155 #[.val (.int p0), .val (.int p1), .val (.long q2), .second, .val (.ref b1), .val (.int o3), .val (.long n3), .second, .val (.int (2 : Int32)), .unset, .unset, .unset, .unset] [(.int (2 : Int32))])
          refine Goes.go (fun _ => XS.iconst S.here B.x rfl (B.d at_155)) ?_
          show Goes _ _ _ _ T (mkF m 156 #[.val (.int p0), .val (.int p1), .val (.long q2), .second, .val (.ref b1), .val (.int o3), .val (.long n3), .second, .val (.int (2 : Int32)), .unset, .unset, .unset, .unset] [(.int (2 : Int32)), (.int (2 : Int32))])
          refine Goes.go (fun _ => XS.icmpNo S.here B.x rfl (B.d at_156) rfl (by decide)) ?_
          show Goes _ _ _ _ T (mkF m 159 #[.val (.int p0), .val (.int p1), .val (.long q2), .second, .val (.ref b1), .val (.int o3), .val (.long n3), .second, .val (.int (2 : Int32)), .unset, .unset, .unset, .unset] [])
          refine Goes.go (fun _ => XS.iconst S.here B.x rfl (B.d at_159)) ?_
          show Goes _ _ _ _ T (mkF m 160 #[.val (.int p0), .val (.int p1), .val (.long q2), .second, .val (.ref b1), .val (.int o3), .val (.long n3), .second, .val (.int (2 : Int32)), .unset, .unset, .unset, .unset] [(.int (0 : Int32))])
          refine Goes.go (fun _ => XS.istore S.here B.x rfl (B.d at_160) rfl (l' := #[.val (.int p0), .val (.int p1), .val (.long q2), .second, .val (.ref b1), .val (.int (0 : Int32)), .val (.long n3), .second, .val (.int (2 : Int32)), .unset, .unset, .unset, .unset]) rfl) ?_
          show Goes _ _ _ _ T (mkF m 162 #[.val (.int p0), .val (.int p1), .val (.long q2), .second, .val (.ref b1), .val (.int (0 : Int32)), .val (.long n3), .second, .val (.int (2 : Int32)), .unset, .unset, .unset, .unset] [])
          exact J5 T _ (0 : Int32) n3 (2 : Int32) S E_b1 F_b1_open F_b1_openings
      refine Goes.go (fun _ => XS.aload S.here B.x rfl (B.d at_87) rfl rfl) ?_
      show Goes _ _ _ _ T (mkF m 89 #[.val (.int p0), .val (.int p1), .val (.long q2), .second, .val (.ref b1), .val (.int o2), .val (.long n2), .second, .val (.int r2), .unset, .unset, .unset, .unset] [(.ref b1)])
      refine Goes.go (fun _ => XS.iloadN S.here B.x rfl (B.d at_89) rfl) ?_
      show Goes _ _ _ _ T (mkF m 90 #[.val (.int p0), .val (.int p1), .val (.long q2), .second, .val (.ref b1), .val (.int o2), .val (.long n2), .second, .val (.int r2), .unset, .unset, .unset, .unset] [(.int p0), (.ref b1)])
      refine Goes.go (fun _ => XS.iconst S.here B.x rfl (B.d at_90)) ?_
      show Goes _ _ _ _ T (mkF m 91 #[.val (.int p0), .val (.int p1), .val (.long q2), .second, .val (.ref b1), .val (.int o2), .val (.long n2), .second, .val (.int r2), .unset, .unset, .unset, .unset] [(.int (4 : Int32)), (.int p0), (.ref b1)])
      refine Goes.go (fun _ => XS.iushr S.here B.x rfl (B.d at_91) rfl) ?_
      show Goes _ _ _ _ T (mkF m 92 #[.val (.int p0), .val (.int p1), .val (.long q2), .second, .val (.ref b1), .val (.int o2), .val (.long n2), .second, .val (.int r2), .unset, .unset, .unset, .unset] [(.int ((p0.toUInt32 >>> ((4 : Int32) &&& 31).toUInt32).toInt32)), (.ref b1)])
      refine Goes.callS (argsL := [(.ref b1), (.int ((p0.toUInt32 >>> ((4 : Int32) &&& 31).toUInt32).toInt32))]) (rest := []) (W := 0) S B (rm_step l Z aw hw b1 ((p0.toUInt32 >>> ((4 : Int32) &&& 31).toUInt32).toInt32) o2 n2 _ n0 E_b1 F_b1_open F_b1_openings g_b1) (w12 hw) (w13 hw) (w14 hw) (w15 hw) (by decide) (by decide) (by decide) (by decide) (by decide) rfl (lenOf pd_2 rfl) rfl (Nat.le_of_eq rfl) at_92 ?_
      intro v T h S hQ
      obtain ⟨u10, u11, u12, rfl, Kc, E_b1', F_b1_open', F_b1_openings', hr_92⟩ := hQ
      replace E_b1 := E_b1'
      replace F_b1_open := F_b1_open'
      replace F_b1_openings := F_b1_openings'
      show Goes _ _ _ _ T (mkF m 95 #[.val (.int p0), .val (.int p1), .val (.long q2), .second, .val (.ref b1), .val (.int o2), .val (.long n2), .second, .val (.int r2), .unset, .unset, .unset, .unset] [(.int u10)])
      rcases hr_92 with ⟨rfl, rfl, rfl⟩ | ⟨rfl, rfl, rfl⟩ | ⟨rfl, rfl, rfl⟩
      · skip
        show Goes _ _ _ _ T (mkF m 95 #[.val (.int p0), .val (.int p1), .val (.long q2), .second, .val (.ref b1), .val (.int o2), .val (.long n2), .second, .val (.int r2), .unset, .unset, .unset, .unset] [(.int (0 : Int32))])
        refine Goes.go (fun _ => XS.istore S.here B.x rfl (B.d at_95) rfl (l' := #[.val (.int p0), .val (.int p1), .val (.long q2), .second, .val (.ref b1), .val (.int o2), .val (.long n2), .second, .val (.int (0 : Int32)), .unset, .unset, .unset, .unset]) rfl) ?_
        show Goes _ _ _ _ T (mkF m 97 #[.val (.int p0), .val (.int p1), .val (.long q2), .second, .val (.ref b1), .val (.int o2), .val (.long n2), .second, .val (.int (0 : Int32)), .unset, .unset, .unset, .unset] [])
        refine Goes.go (fun _ => XS.iload S.here B.x rfl (B.d at_97) rfl) ?_
        show Goes _ _ _ _ T (mkF m 99 #[.val (.int p0), .val (.int p1), .val (.long q2), .second, .val (.ref b1), .val (.int o2), .val (.long n2), .second, .val (.int (0 : Int32)), .unset, .unset, .unset, .unset] [(.int (0 : Int32))])
        refine Goes.go (fun _ => XS.iconst S.here B.x rfl (B.d at_99)) ?_
        show Goes _ _ _ _ T (mkF m 100 #[.val (.int p0), .val (.int p1), .val (.long q2), .second, .val (.ref b1), .val (.int o2), .val (.long n2), .second, .val (.int (0 : Int32)), .unset, .unset, .unset, .unset] [(.int (1 : Int32)), (.int (0 : Int32))])
        refine Goes.go (fun _ => XS.icmpYes S.here B.x rfl (pc0 := 100) (pc' := 115) rfl (B.d at_100) rfl (by decide) (by decide) (by decide)) ?_
        show Goes _ _ _ _ T (mkF m 115 #[.val (.int p0), .val (.int p1), .val (.long q2), .second, .val (.ref b1), .val (.int o2), .val (.long n2), .second, .val (.int (0 : Int32)), .unset, .unset, .unset, .unset] [])
        refine Goes.go (fun _ => XS.iload S.here B.x rfl (B.d at_115) rfl) ?_
        show Goes _ _ _ _ T (mkF m 117 #[.val (.int p0), .val (.int p1), .val (.long q2), .second, .val (.ref b1), .val (.int o2), .val (.long n2), .second, .val (.int (0 : Int32)), .unset, .unset, .unset, .unset] [(.int (0 : Int32))])
        refine Goes.go (fun _ => XS.iconst S.here B.x rfl (B.d at_117)) ?_
        show Goes _ _ _ _ T (mkF m 118 #[.val (.int p0), .val (.int p1), .val (.long q2), .second, .val (.ref b1), .val (.int o2), .val (.long n2), .second, .val (.int (0 : Int32)), .unset, .unset, .unset, .unset] [(.int (2 : Int32)), (.int (0 : Int32))])
        refine Goes.go (fun _ => XS.icmpYes S.here B.x rfl (pc0 := 118) (pc' := 124) rfl (B.d at_118) rfl (by decide) (by decide) (by decide)) ?_
        show Goes _ _ _ _ T (mkF m 124 #[.val (.int p0), .val (.int p1), .val (.long q2), .second, .val (.ref b1), .val (.int o2), .val (.long n2), .second, .val (.int (0 : Int32)), .unset, .unset, .unset, .unset] [])
        exact J4 T _ o2 n2 (0 : Int32) S E_b1 F_b1_open F_b1_openings
      · skip
        show Goes _ _ _ _ T (mkF m 95 #[.val (.int p0), .val (.int p1), .val (.long q2), .second, .val (.ref b1), .val (.int o2), .val (.long n2), .second, .val (.int r2), .unset, .unset, .unset, .unset] [(.int (1 : Int32))])
        refine Goes.go (fun _ => XS.istore S.here B.x rfl (B.d at_95) rfl (l' := #[.val (.int p0), .val (.int p1), .val (.long q2), .second, .val (.ref b1), .val (.int o2), .val (.long n2), .second, .val (.int (1 : Int32)), .unset, .unset, .unset, .unset]) rfl) ?_
        show Goes _ _ _ _ T (mkF m 97 #[.val (.int p0), .val (.int p1), .val (.long q2), .second, .val (.ref b1), .val (.int o2), .val (.long n2), .second, .val (.int (1 : Int32)), .unset, .unset, .unset, .unset] [])
        refine Goes.go (fun _ => XS.iload S.here B.x rfl (B.d at_97) rfl) ?_
        show Goes _ _ _ _ T (mkF m 99 #[.val (.int p0), .val (.int p1), .val (.long q2), .second, .val (.ref b1), .val (.int o2), .val (.long n2), .second, .val (.int (1 : Int32)), .unset, .unset, .unset, .unset] [(.int (1 : Int32))])
        refine Goes.go (fun _ => XS.iconst S.here B.x rfl (B.d at_99)) ?_
        show Goes _ _ _ _ T (mkF m 100 #[.val (.int p0), .val (.int p1), .val (.long q2), .second, .val (.ref b1), .val (.int o2), .val (.long n2), .second, .val (.int (1 : Int32)), .unset, .unset, .unset, .unset] [(.int (1 : Int32)), (.int (1 : Int32))])
        refine Goes.go (fun _ => XS.icmpNo S.here B.x rfl (B.d at_100) rfl (by decide)) ?_
        show Goes _ _ _ _ T (mkF m 103 #[.val (.int p0), .val (.int p1), .val (.long q2), .second, .val (.ref b1), .val (.int o2), .val (.long n2), .second, .val (.int (1 : Int32)), .unset, .unset, .unset, .unset] [])
        refine Goes.go (fun _ => XS.iconst S.here B.x rfl (B.d at_103)) ?_
        show Goes _ _ _ _ T (mkF m 104 #[.val (.int p0), .val (.int p1), .val (.long q2), .second, .val (.ref b1), .val (.int o2), .val (.long n2), .second, .val (.int (1 : Int32)), .unset, .unset, .unset, .unset] [(.int (1 : Int32))])
        refine Goes.go (fun _ => XS.istore S.here B.x rfl (B.d at_104) rfl (l' := #[.val (.int p0), .val (.int p1), .val (.long q2), .second, .val (.ref b1), .val (.int (1 : Int32)), .val (.long n2), .second, .val (.int (1 : Int32)), .unset, .unset, .unset, .unset]) rfl) ?_
        show Goes _ _ _ _ T (mkF m 106 #[.val (.int p0), .val (.int p1), .val (.long q2), .second, .val (.ref b1), .val (.int (1 : Int32)), .val (.long n2), .second, .val (.int (1 : Int32)), .unset, .unset, .unset, .unset] [])
        refine Goes.go (fun _ => XS.lload S.here B.x rfl (B.d at_106) rfl) ?_
        show Goes _ _ _ _ T (mkF m 108 #[.val (.int p0), .val (.int p1), .val (.long q2), .second, .val (.ref b1), .val (.int (1 : Int32)), .val (.long n2), .second, .val (.int (1 : Int32)), .unset, .unset, .unset, .unset] [(.long n2)])
        refine Goes.go (fun _ => XS.lconst S.here B.x rfl (B.d at_108)) ?_
        show Goes _ _ _ _ T (mkF m 109 #[.val (.int p0), .val (.int p1), .val (.long q2), .second, .val (.ref b1), .val (.int (1 : Int32)), .val (.long n2), .second, .val (.int (1 : Int32)), .unset, .unset, .unset, .unset] [(.long (1 : Int64)), (.long n2)])
        refine Goes.go (fun _ => XS.ladd S.here B.x rfl (B.d at_109) rfl) ?_
        show Goes _ _ _ _ T (mkF m 110 #[.val (.int p0), .val (.int p1), .val (.long q2), .second, .val (.ref b1), .val (.int (1 : Int32)), .val (.long n2), .second, .val (.int (1 : Int32)), .unset, .unset, .unset, .unset] [(.long (n2 + (1 : Int64)))])
        refine Goes.go (fun _ => XS.lstore S.here B.x rfl (B.d at_110) rfl (l' := #[.val (.int p0), .val (.int p1), .val (.long q2), .second, .val (.ref b1), .val (.int (1 : Int32)), .val (.long (n2 + (1 : Int64))), .second, .val (.int (1 : Int32)), .unset, .unset, .unset, .unset]) rfl) ?_
        show Goes _ _ _ _ T (mkF m 112 #[.val (.int p0), .val (.int p1), .val (.long q2), .second, .val (.ref b1), .val (.int (1 : Int32)), .val (.long (n2 + (1 : Int64))), .second, .val (.int (1 : Int32)), .unset, .unset, .unset, .unset] [])
        refine Goes.go (fun _ => XS.goto S.here B.x rfl (pc0 := 112) (pc' := 124) rfl (B.d at_112) (by decide) (by decide)) ?_
        show Goes _ _ _ _ T (mkF m 124 #[.val (.int p0), .val (.int p1), .val (.long q2), .second, .val (.ref b1), .val (.int (1 : Int32)), .val (.long (n2 + (1 : Int64))), .second, .val (.int (1 : Int32)), .unset, .unset, .unset, .unset] [])
        exact J4 T _ (1 : Int32) (n2 + (1 : Int64)) (1 : Int32) S E_b1 F_b1_open F_b1_openings
      · skip
        show Goes _ _ _ _ T (mkF m 95 #[.val (.int p0), .val (.int p1), .val (.long q2), .second, .val (.ref b1), .val (.int o2), .val (.long n2), .second, .val (.int r2), .unset, .unset, .unset, .unset] [(.int (2 : Int32))])
        refine Goes.go (fun _ => XS.istore S.here B.x rfl (B.d at_95) rfl (l' := #[.val (.int p0), .val (.int p1), .val (.long q2), .second, .val (.ref b1), .val (.int o2), .val (.long n2), .second, .val (.int (2 : Int32)), .unset, .unset, .unset, .unset]) rfl) ?_
        show Goes _ _ _ _ T (mkF m 97 #[.val (.int p0), .val (.int p1), .val (.long q2), .second, .val (.ref b1), .val (.int o2), .val (.long n2), .second, .val (.int (2 : Int32)), .unset, .unset, .unset, .unset] [])
        refine Goes.go (fun _ => XS.iload S.here B.x rfl (B.d at_97) rfl) ?_
        show Goes _ _ _ _ T (mkF m 99 #[.val (.int p0), .val (.int p1), .val (.long q2), .second, .val (.ref b1), .val (.int o2), .val (.long n2), .second, .val (.int (2 : Int32)), .unset, .unset, .unset, .unset] [(.int (2 : Int32))])
        refine Goes.go (fun _ => XS.iconst S.here B.x rfl (B.d at_99)) ?_
        show Goes _ _ _ _ T (mkF m 100 #[.val (.int p0), .val (.int p1), .val (.long q2), .second, .val (.ref b1), .val (.int o2), .val (.long n2), .second, .val (.int (2 : Int32)), .unset, .unset, .unset, .unset] [(.int (1 : Int32)), (.int (2 : Int32))])
        refine Goes.go (fun _ => XS.icmpYes S.here B.x rfl (pc0 := 100) (pc' := 115) rfl (B.d at_100) rfl (by decide) (by decide) (by decide)) ?_
        show Goes _ _ _ _ T (mkF m 115 #[.val (.int p0), .val (.int p1), .val (.long q2), .second, .val (.ref b1), .val (.int o2), .val (.long n2), .second, .val (.int (2 : Int32)), .unset, .unset, .unset, .unset] [])
        refine Goes.go (fun _ => XS.iload S.here B.x rfl (B.d at_115) rfl) ?_
        show Goes _ _ _ _ T (mkF m 117 #[.val (.int p0), .val (.int p1), .val (.long q2), .second, .val (.ref b1), .val (.int o2), .val (.long n2), .second, .val (.int (2 : Int32)), .unset, .unset, .unset, .unset] [(.int (2 : Int32))])
        refine Goes.go (fun _ => XS.iconst S.here B.x rfl (B.d at_117)) ?_
        show Goes _ _ _ _ T (mkF m 118 #[.val (.int p0), .val (.int p1), .val (.long q2), .second, .val (.ref b1), .val (.int o2), .val (.long n2), .second, .val (.int (2 : Int32)), .unset, .unset, .unset, .unset] [(.int (2 : Int32)), (.int (2 : Int32))])
        refine Goes.go (fun _ => XS.icmpNo S.here B.x rfl (B.d at_118) rfl (by decide)) ?_
        show Goes _ _ _ _ T (mkF m 121 #[.val (.int p0), .val (.int p1), .val (.long q2), .second, .val (.ref b1), .val (.int o2), .val (.long n2), .second, .val (.int (2 : Int32)), .unset, .unset, .unset, .unset] [])
        refine Goes.go (fun _ => XS.iconst S.here B.x rfl (B.d at_121)) ?_
        show Goes _ _ _ _ T (mkF m 122 #[.val (.int p0), .val (.int p1), .val (.long q2), .second, .val (.ref b1), .val (.int o2), .val (.long n2), .second, .val (.int (2 : Int32)), .unset, .unset, .unset, .unset] [(.int (0 : Int32))])
        refine Goes.go (fun _ => XS.istore S.here B.x rfl (B.d at_122) rfl (l' := #[.val (.int p0), .val (.int p1), .val (.long q2), .second, .val (.ref b1), .val (.int (0 : Int32)), .val (.long n2), .second, .val (.int (2 : Int32)), .unset, .unset, .unset, .unset]) rfl) ?_
        show Goes _ _ _ _ T (mkF m 124 #[.val (.int p0), .val (.int p1), .val (.long q2), .second, .val (.ref b1), .val (.int (0 : Int32)), .val (.long n2), .second, .val (.int (2 : Int32)), .unset, .unset, .unset, .unset] [])
        exact J4 T _ (0 : Int32) n2 (2 : Int32) S E_b1 F_b1_open F_b1_openings
    refine Goes.go (fun _ => XS.aload S.here B.x rfl (B.d at_50) rfl rfl) ?_
    show Goes _ _ _ _ T (mkF m 52 #[.val (.int p0), .val (.int p1), .val (.long q2), .second, .val (.ref b1), .val (.int o1), .val (.long n1), .second, .val (.int r1), .unset, .unset, .unset, .unset] [(.ref b1)])
    refine Goes.go (fun _ => XS.iloadN S.here B.x rfl (B.d at_52) rfl) ?_
    show Goes _ _ _ _ T (mkF m 53 #[.val (.int p0), .val (.int p1), .val (.long q2), .second, .val (.ref b1), .val (.int o1), .val (.long n1), .second, .val (.int r1), .unset, .unset, .unset, .unset] [(.int p0), (.ref b1)])
    refine Goes.go (fun _ => XS.iconst S.here B.x rfl (B.d at_53)) ?_
    show Goes _ _ _ _ T (mkF m 54 #[.val (.int p0), .val (.int p1), .val (.long q2), .second, .val (.ref b1), .val (.int o1), .val (.long n1), .second, .val (.int r1), .unset, .unset, .unset, .unset] [(.int (2 : Int32)), (.int p0), (.ref b1)])
    refine Goes.go (fun _ => XS.iushr S.here B.x rfl (B.d at_54) rfl) ?_
    show Goes _ _ _ _ T (mkF m 55 #[.val (.int p0), .val (.int p1), .val (.long q2), .second, .val (.ref b1), .val (.int o1), .val (.long n1), .second, .val (.int r1), .unset, .unset, .unset, .unset] [(.int ((p0.toUInt32 >>> ((2 : Int32) &&& 31).toUInt32).toInt32)), (.ref b1)])
    refine Goes.callS (argsL := [(.ref b1), (.int ((p0.toUInt32 >>> ((2 : Int32) &&& 31).toUInt32).toInt32))]) (rest := []) (W := 0) S B (rm_step l Z aw hw b1 ((p0.toUInt32 >>> ((2 : Int32) &&& 31).toUInt32).toInt32) o1 n1 _ n0 E_b1 F_b1_open F_b1_openings g_b1) (w12 hw) (w13 hw) (w14 hw) (w15 hw) (by decide) (by decide) (by decide) (by decide) (by decide) rfl (lenOf pd_2 rfl) rfl (Nat.le_of_eq rfl) at_55 ?_
    intro v T h S hQ
    obtain ⟨u13, u14, u15, rfl, Kc, E_b1', F_b1_open', F_b1_openings', hr_55⟩ := hQ
    replace E_b1 := E_b1'
    replace F_b1_open := F_b1_open'
    replace F_b1_openings := F_b1_openings'
    show Goes _ _ _ _ T (mkF m 58 #[.val (.int p0), .val (.int p1), .val (.long q2), .second, .val (.ref b1), .val (.int o1), .val (.long n1), .second, .val (.int r1), .unset, .unset, .unset, .unset] [(.int u13)])
    rcases hr_55 with ⟨rfl, rfl, rfl⟩ | ⟨rfl, rfl, rfl⟩ | ⟨rfl, rfl, rfl⟩
    · skip
      show Goes _ _ _ _ T (mkF m 58 #[.val (.int p0), .val (.int p1), .val (.long q2), .second, .val (.ref b1), .val (.int o1), .val (.long n1), .second, .val (.int r1), .unset, .unset, .unset, .unset] [(.int (0 : Int32))])
      refine Goes.go (fun _ => XS.istore S.here B.x rfl (B.d at_58) rfl (l' := #[.val (.int p0), .val (.int p1), .val (.long q2), .second, .val (.ref b1), .val (.int o1), .val (.long n1), .second, .val (.int (0 : Int32)), .unset, .unset, .unset, .unset]) rfl) ?_
      show Goes _ _ _ _ T (mkF m 60 #[.val (.int p0), .val (.int p1), .val (.long q2), .second, .val (.ref b1), .val (.int o1), .val (.long n1), .second, .val (.int (0 : Int32)), .unset, .unset, .unset, .unset] [])
      refine Goes.go (fun _ => XS.iload S.here B.x rfl (B.d at_60) rfl) ?_
      show Goes _ _ _ _ T (mkF m 62 #[.val (.int p0), .val (.int p1), .val (.long q2), .second, .val (.ref b1), .val (.int o1), .val (.long n1), .second, .val (.int (0 : Int32)), .unset, .unset, .unset, .unset] [(.int (0 : Int32))])
      refine Goes.go (fun _ => XS.iconst S.here B.x rfl (B.d at_62)) ?_
      show Goes _ _ _ _ T (mkF m 63 #[.val (.int p0), .val (.int p1), .val (.long q2), .second, .val (.ref b1), .val (.int o1), .val (.long n1), .second, .val (.int (0 : Int32)), .unset, .unset, .unset, .unset] [(.int (1 : Int32)), (.int (0 : Int32))])
      refine Goes.go (fun _ => XS.icmpYes S.here B.x rfl (pc0 := 63) (pc' := 78) rfl (B.d at_63) rfl (by decide) (by decide) (by decide)) ?_
      show Goes _ _ _ _ T (mkF m 78 #[.val (.int p0), .val (.int p1), .val (.long q2), .second, .val (.ref b1), .val (.int o1), .val (.long n1), .second, .val (.int (0 : Int32)), .unset, .unset, .unset, .unset] [])
      refine Goes.go (fun _ => XS.iload S.here B.x rfl (B.d at_78) rfl) ?_
      show Goes _ _ _ _ T (mkF m 80 #[.val (.int p0), .val (.int p1), .val (.long q2), .second, .val (.ref b1), .val (.int o1), .val (.long n1), .second, .val (.int (0 : Int32)), .unset, .unset, .unset, .unset] [(.int (0 : Int32))])
      refine Goes.go (fun _ => XS.iconst S.here B.x rfl (B.d at_80)) ?_
      show Goes _ _ _ _ T (mkF m 81 #[.val (.int p0), .val (.int p1), .val (.long q2), .second, .val (.ref b1), .val (.int o1), .val (.long n1), .second, .val (.int (0 : Int32)), .unset, .unset, .unset, .unset] [(.int (2 : Int32)), (.int (0 : Int32))])
      refine Goes.go (fun _ => XS.icmpYes S.here B.x rfl (pc0 := 81) (pc' := 87) rfl (B.d at_81) rfl (by decide) (by decide) (by decide)) ?_
      show Goes _ _ _ _ T (mkF m 87 #[.val (.int p0), .val (.int p1), .val (.long q2), .second, .val (.ref b1), .val (.int o1), .val (.long n1), .second, .val (.int (0 : Int32)), .unset, .unset, .unset, .unset] [])
      exact J3 T _ o1 n1 (0 : Int32) S E_b1 F_b1_open F_b1_openings
    · skip
      show Goes _ _ _ _ T (mkF m 58 #[.val (.int p0), .val (.int p1), .val (.long q2), .second, .val (.ref b1), .val (.int o1), .val (.long n1), .second, .val (.int r1), .unset, .unset, .unset, .unset] [(.int (1 : Int32))])
      refine Goes.go (fun _ => XS.istore S.here B.x rfl (B.d at_58) rfl (l' := #[.val (.int p0), .val (.int p1), .val (.long q2), .second, .val (.ref b1), .val (.int o1), .val (.long n1), .second, .val (.int (1 : Int32)), .unset, .unset, .unset, .unset]) rfl) ?_
      show Goes _ _ _ _ T (mkF m 60 #[.val (.int p0), .val (.int p1), .val (.long q2), .second, .val (.ref b1), .val (.int o1), .val (.long n1), .second, .val (.int (1 : Int32)), .unset, .unset, .unset, .unset] [])
      refine Goes.go (fun _ => XS.iload S.here B.x rfl (B.d at_60) rfl) ?_
      show Goes _ _ _ _ T (mkF m 62 #[.val (.int p0), .val (.int p1), .val (.long q2), .second, .val (.ref b1), .val (.int o1), .val (.long n1), .second, .val (.int (1 : Int32)), .unset, .unset, .unset, .unset] [(.int (1 : Int32))])
      refine Goes.go (fun _ => XS.iconst S.here B.x rfl (B.d at_62)) ?_
      show Goes _ _ _ _ T (mkF m 63 #[.val (.int p0), .val (.int p1), .val (.long q2), .second, .val (.ref b1), .val (.int o1), .val (.long n1), .second, .val (.int (1 : Int32)), .unset, .unset, .unset, .unset] [(.int (1 : Int32)), (.int (1 : Int32))])
      refine Goes.go (fun _ => XS.icmpNo S.here B.x rfl (B.d at_63) rfl (by decide)) ?_
      show Goes _ _ _ _ T (mkF m 66 #[.val (.int p0), .val (.int p1), .val (.long q2), .second, .val (.ref b1), .val (.int o1), .val (.long n1), .second, .val (.int (1 : Int32)), .unset, .unset, .unset, .unset] [])
      refine Goes.go (fun _ => XS.iconst S.here B.x rfl (B.d at_66)) ?_
      show Goes _ _ _ _ T (mkF m 67 #[.val (.int p0), .val (.int p1), .val (.long q2), .second, .val (.ref b1), .val (.int o1), .val (.long n1), .second, .val (.int (1 : Int32)), .unset, .unset, .unset, .unset] [(.int (1 : Int32))])
      refine Goes.go (fun _ => XS.istore S.here B.x rfl (B.d at_67) rfl (l' := #[.val (.int p0), .val (.int p1), .val (.long q2), .second, .val (.ref b1), .val (.int (1 : Int32)), .val (.long n1), .second, .val (.int (1 : Int32)), .unset, .unset, .unset, .unset]) rfl) ?_
      show Goes _ _ _ _ T (mkF m 69 #[.val (.int p0), .val (.int p1), .val (.long q2), .second, .val (.ref b1), .val (.int (1 : Int32)), .val (.long n1), .second, .val (.int (1 : Int32)), .unset, .unset, .unset, .unset] [])
      refine Goes.go (fun _ => XS.lload S.here B.x rfl (B.d at_69) rfl) ?_
      show Goes _ _ _ _ T (mkF m 71 #[.val (.int p0), .val (.int p1), .val (.long q2), .second, .val (.ref b1), .val (.int (1 : Int32)), .val (.long n1), .second, .val (.int (1 : Int32)), .unset, .unset, .unset, .unset] [(.long n1)])
      refine Goes.go (fun _ => XS.lconst S.here B.x rfl (B.d at_71)) ?_
      show Goes _ _ _ _ T (mkF m 72 #[.val (.int p0), .val (.int p1), .val (.long q2), .second, .val (.ref b1), .val (.int (1 : Int32)), .val (.long n1), .second, .val (.int (1 : Int32)), .unset, .unset, .unset, .unset] [(.long (1 : Int64)), (.long n1)])
      refine Goes.go (fun _ => XS.ladd S.here B.x rfl (B.d at_72) rfl) ?_
      show Goes _ _ _ _ T (mkF m 73 #[.val (.int p0), .val (.int p1), .val (.long q2), .second, .val (.ref b1), .val (.int (1 : Int32)), .val (.long n1), .second, .val (.int (1 : Int32)), .unset, .unset, .unset, .unset] [(.long (n1 + (1 : Int64)))])
      refine Goes.go (fun _ => XS.lstore S.here B.x rfl (B.d at_73) rfl (l' := #[.val (.int p0), .val (.int p1), .val (.long q2), .second, .val (.ref b1), .val (.int (1 : Int32)), .val (.long (n1 + (1 : Int64))), .second, .val (.int (1 : Int32)), .unset, .unset, .unset, .unset]) rfl) ?_
      show Goes _ _ _ _ T (mkF m 75 #[.val (.int p0), .val (.int p1), .val (.long q2), .second, .val (.ref b1), .val (.int (1 : Int32)), .val (.long (n1 + (1 : Int64))), .second, .val (.int (1 : Int32)), .unset, .unset, .unset, .unset] [])
      refine Goes.go (fun _ => XS.goto S.here B.x rfl (pc0 := 75) (pc' := 87) rfl (B.d at_75) (by decide) (by decide)) ?_
      show Goes _ _ _ _ T (mkF m 87 #[.val (.int p0), .val (.int p1), .val (.long q2), .second, .val (.ref b1), .val (.int (1 : Int32)), .val (.long (n1 + (1 : Int64))), .second, .val (.int (1 : Int32)), .unset, .unset, .unset, .unset] [])
      exact J3 T _ (1 : Int32) (n1 + (1 : Int64)) (1 : Int32) S E_b1 F_b1_open F_b1_openings
    · skip
      show Goes _ _ _ _ T (mkF m 58 #[.val (.int p0), .val (.int p1), .val (.long q2), .second, .val (.ref b1), .val (.int o1), .val (.long n1), .second, .val (.int r1), .unset, .unset, .unset, .unset] [(.int (2 : Int32))])
      refine Goes.go (fun _ => XS.istore S.here B.x rfl (B.d at_58) rfl (l' := #[.val (.int p0), .val (.int p1), .val (.long q2), .second, .val (.ref b1), .val (.int o1), .val (.long n1), .second, .val (.int (2 : Int32)), .unset, .unset, .unset, .unset]) rfl) ?_
      show Goes _ _ _ _ T (mkF m 60 #[.val (.int p0), .val (.int p1), .val (.long q2), .second, .val (.ref b1), .val (.int o1), .val (.long n1), .second, .val (.int (2 : Int32)), .unset, .unset, .unset, .unset] [])
      refine Goes.go (fun _ => XS.iload S.here B.x rfl (B.d at_60) rfl) ?_
      show Goes _ _ _ _ T (mkF m 62 #[.val (.int p0), .val (.int p1), .val (.long q2), .second, .val (.ref b1), .val (.int o1), .val (.long n1), .second, .val (.int (2 : Int32)), .unset, .unset, .unset, .unset] [(.int (2 : Int32))])
      refine Goes.go (fun _ => XS.iconst S.here B.x rfl (B.d at_62)) ?_
      show Goes _ _ _ _ T (mkF m 63 #[.val (.int p0), .val (.int p1), .val (.long q2), .second, .val (.ref b1), .val (.int o1), .val (.long n1), .second, .val (.int (2 : Int32)), .unset, .unset, .unset, .unset] [(.int (1 : Int32)), (.int (2 : Int32))])
      refine Goes.go (fun _ => XS.icmpYes S.here B.x rfl (pc0 := 63) (pc' := 78) rfl (B.d at_63) rfl (by decide) (by decide) (by decide)) ?_
      show Goes _ _ _ _ T (mkF m 78 #[.val (.int p0), .val (.int p1), .val (.long q2), .second, .val (.ref b1), .val (.int o1), .val (.long n1), .second, .val (.int (2 : Int32)), .unset, .unset, .unset, .unset] [])
      refine Goes.go (fun _ => XS.iload S.here B.x rfl (B.d at_78) rfl) ?_
      show Goes _ _ _ _ T (mkF m 80 #[.val (.int p0), .val (.int p1), .val (.long q2), .second, .val (.ref b1), .val (.int o1), .val (.long n1), .second, .val (.int (2 : Int32)), .unset, .unset, .unset, .unset] [(.int (2 : Int32))])
      refine Goes.go (fun _ => XS.iconst S.here B.x rfl (B.d at_80)) ?_
      show Goes _ _ _ _ T (mkF m 81 #[.val (.int p0), .val (.int p1), .val (.long q2), .second, .val (.ref b1), .val (.int o1), .val (.long n1), .second, .val (.int (2 : Int32)), .unset, .unset, .unset, .unset] [(.int (2 : Int32)), (.int (2 : Int32))])
      refine Goes.go (fun _ => XS.icmpNo S.here B.x rfl (B.d at_81) rfl (by decide)) ?_
      show Goes _ _ _ _ T (mkF m 84 #[.val (.int p0), .val (.int p1), .val (.long q2), .second, .val (.ref b1), .val (.int o1), .val (.long n1), .second, .val (.int (2 : Int32)), .unset, .unset, .unset, .unset] [])
      refine Goes.go (fun _ => XS.iconst S.here B.x rfl (B.d at_84)) ?_
      show Goes _ _ _ _ T (mkF m 85 #[.val (.int p0), .val (.int p1), .val (.long q2), .second, .val (.ref b1), .val (.int o1), .val (.long n1), .second, .val (.int (2 : Int32)), .unset, .unset, .unset, .unset] [(.int (0 : Int32))])
      refine Goes.go (fun _ => XS.istore S.here B.x rfl (B.d at_85) rfl (l' := #[.val (.int p0), .val (.int p1), .val (.long q2), .second, .val (.ref b1), .val (.int (0 : Int32)), .val (.long n1), .second, .val (.int (2 : Int32)), .unset, .unset, .unset, .unset]) rfl) ?_
      show Goes _ _ _ _ T (mkF m 87 #[.val (.int p0), .val (.int p1), .val (.long q2), .second, .val (.ref b1), .val (.int (0 : Int32)), .val (.long n1), .second, .val (.int (2 : Int32)), .unset, .unset, .unset, .unset] [])
      exact J3 T _ (0 : Int32) n1 (2 : Int32) S E_b1 F_b1_open F_b1_openings
  refine Goes.go (fun _ => XS.aload S.here B.x rfl (B.d at_15) rfl rfl) ?_
  show Goes _ _ _ _ T (mkF m 17 #[.val (.int p0), .val (.int p1), .val (.long q2), .second, .val (.ref b1), .val (.int (0 : Int32)), .val (.long (0 : Int64)), .second, .unset, .unset, .unset, .unset, .unset] [(.ref b1)])
  refine Goes.go (fun _ => XS.iloadN S.here B.x rfl (B.d at_17) rfl) ?_
  show Goes _ _ _ _ T (mkF m 18 #[.val (.int p0), .val (.int p1), .val (.long q2), .second, .val (.ref b1), .val (.int (0 : Int32)), .val (.long (0 : Int64)), .second, .unset, .unset, .unset, .unset, .unset] [(.int p0), (.ref b1)])
  refine Goes.callS (argsL := [(.ref b1), (.int p0)]) (rest := []) (W := 0) S B (rm_step l Z aw hw b1 p0 (0 : Int32) (0 : Int64) _ n0 E_b1 F_b1_open F_b1_openings g_b1) (w12 hw) (w13 hw) (w14 hw) (w15 hw) (by decide) (by decide) (by decide) (by decide) (by decide) rfl (lenOf pd_2 rfl) rfl (Nat.le_of_eq rfl) at_18 ?_
  intro v T h S hQ
  obtain ⟨u16, u17, u18, rfl, Kc, E_b1', F_b1_open', F_b1_openings', hr_18⟩ := hQ
  replace E_b1 := E_b1'
  replace F_b1_open := F_b1_open'
  replace F_b1_openings := F_b1_openings'
  show Goes _ _ _ _ T (mkF m 21 #[.val (.int p0), .val (.int p1), .val (.long q2), .second, .val (.ref b1), .val (.int (0 : Int32)), .val (.long (0 : Int64)), .second, .unset, .unset, .unset, .unset, .unset] [(.int u16)])
  rcases hr_18 with ⟨rfl, rfl, rfl⟩ | ⟨rfl, rfl, rfl⟩ | ⟨rfl, rfl, rfl⟩
  · skip
    show Goes _ _ _ _ T (mkF m 21 #[.val (.int p0), .val (.int p1), .val (.long q2), .second, .val (.ref b1), .val (.int (0 : Int32)), .val (.long (0 : Int64)), .second, .unset, .unset, .unset, .unset, .unset] [(.int (0 : Int32))])
    refine Goes.go (fun _ => XS.istore S.here B.x rfl (B.d at_21) rfl (l' := #[.val (.int p0), .val (.int p1), .val (.long q2), .second, .val (.ref b1), .val (.int (0 : Int32)), .val (.long (0 : Int64)), .second, .val (.int (0 : Int32)), .unset, .unset, .unset, .unset]) rfl) ?_
    show Goes _ _ _ _ T (mkF m 23 #[.val (.int p0), .val (.int p1), .val (.long q2), .second, .val (.ref b1), .val (.int (0 : Int32)), .val (.long (0 : Int64)), .second, .val (.int (0 : Int32)), .unset, .unset, .unset, .unset] [])
    refine Goes.go (fun _ => XS.iload S.here B.x rfl (B.d at_23) rfl) ?_
    show Goes _ _ _ _ T (mkF m 25 #[.val (.int p0), .val (.int p1), .val (.long q2), .second, .val (.ref b1), .val (.int (0 : Int32)), .val (.long (0 : Int64)), .second, .val (.int (0 : Int32)), .unset, .unset, .unset, .unset] [(.int (0 : Int32))])
    refine Goes.go (fun _ => XS.iconst S.here B.x rfl (B.d at_25)) ?_
    show Goes _ _ _ _ T (mkF m 26 #[.val (.int p0), .val (.int p1), .val (.long q2), .second, .val (.ref b1), .val (.int (0 : Int32)), .val (.long (0 : Int64)), .second, .val (.int (0 : Int32)), .unset, .unset, .unset, .unset] [(.int (1 : Int32)), (.int (0 : Int32))])
    refine Goes.go (fun _ => XS.icmpYes S.here B.x rfl (pc0 := 26) (pc' := 41) rfl (B.d at_26) rfl (by decide) (by decide) (by decide)) ?_
    show Goes _ _ _ _ T (mkF m 41 #[.val (.int p0), .val (.int p1), .val (.long q2), .second, .val (.ref b1), .val (.int (0 : Int32)), .val (.long (0 : Int64)), .second, .val (.int (0 : Int32)), .unset, .unset, .unset, .unset] [])
    refine Goes.go (fun _ => XS.iload S.here B.x rfl (B.d at_41) rfl) ?_
    show Goes _ _ _ _ T (mkF m 43 #[.val (.int p0), .val (.int p1), .val (.long q2), .second, .val (.ref b1), .val (.int (0 : Int32)), .val (.long (0 : Int64)), .second, .val (.int (0 : Int32)), .unset, .unset, .unset, .unset] [(.int (0 : Int32))])
    refine Goes.go (fun _ => XS.iconst S.here B.x rfl (B.d at_43)) ?_
    show Goes _ _ _ _ T (mkF m 44 #[.val (.int p0), .val (.int p1), .val (.long q2), .second, .val (.ref b1), .val (.int (0 : Int32)), .val (.long (0 : Int64)), .second, .val (.int (0 : Int32)), .unset, .unset, .unset, .unset] [(.int (2 : Int32)), (.int (0 : Int32))])
    refine Goes.go (fun _ => XS.icmpYes S.here B.x rfl (pc0 := 44) (pc' := 50) rfl (B.d at_44) rfl (by decide) (by decide) (by decide)) ?_
    show Goes _ _ _ _ T (mkF m 50 #[.val (.int p0), .val (.int p1), .val (.long q2), .second, .val (.ref b1), .val (.int (0 : Int32)), .val (.long (0 : Int64)), .second, .val (.int (0 : Int32)), .unset, .unset, .unset, .unset] [])
    exact J2 T _ (0 : Int32) (0 : Int64) (0 : Int32) S E_b1 F_b1_open F_b1_openings
  · skip
    show Goes _ _ _ _ T (mkF m 21 #[.val (.int p0), .val (.int p1), .val (.long q2), .second, .val (.ref b1), .val (.int (0 : Int32)), .val (.long (0 : Int64)), .second, .unset, .unset, .unset, .unset, .unset] [(.int (1 : Int32))])
    refine Goes.go (fun _ => XS.istore S.here B.x rfl (B.d at_21) rfl (l' := #[.val (.int p0), .val (.int p1), .val (.long q2), .second, .val (.ref b1), .val (.int (0 : Int32)), .val (.long (0 : Int64)), .second, .val (.int (1 : Int32)), .unset, .unset, .unset, .unset]) rfl) ?_
    show Goes _ _ _ _ T (mkF m 23 #[.val (.int p0), .val (.int p1), .val (.long q2), .second, .val (.ref b1), .val (.int (0 : Int32)), .val (.long (0 : Int64)), .second, .val (.int (1 : Int32)), .unset, .unset, .unset, .unset] [])
    refine Goes.go (fun _ => XS.iload S.here B.x rfl (B.d at_23) rfl) ?_
    show Goes _ _ _ _ T (mkF m 25 #[.val (.int p0), .val (.int p1), .val (.long q2), .second, .val (.ref b1), .val (.int (0 : Int32)), .val (.long (0 : Int64)), .second, .val (.int (1 : Int32)), .unset, .unset, .unset, .unset] [(.int (1 : Int32))])
    refine Goes.go (fun _ => XS.iconst S.here B.x rfl (B.d at_25)) ?_
    show Goes _ _ _ _ T (mkF m 26 #[.val (.int p0), .val (.int p1), .val (.long q2), .second, .val (.ref b1), .val (.int (0 : Int32)), .val (.long (0 : Int64)), .second, .val (.int (1 : Int32)), .unset, .unset, .unset, .unset] [(.int (1 : Int32)), (.int (1 : Int32))])
    refine Goes.go (fun _ => XS.icmpNo S.here B.x rfl (B.d at_26) rfl (by decide)) ?_
    show Goes _ _ _ _ T (mkF m 29 #[.val (.int p0), .val (.int p1), .val (.long q2), .second, .val (.ref b1), .val (.int (0 : Int32)), .val (.long (0 : Int64)), .second, .val (.int (1 : Int32)), .unset, .unset, .unset, .unset] [])
    refine Goes.go (fun _ => XS.iconst S.here B.x rfl (B.d at_29)) ?_
    show Goes _ _ _ _ T (mkF m 30 #[.val (.int p0), .val (.int p1), .val (.long q2), .second, .val (.ref b1), .val (.int (0 : Int32)), .val (.long (0 : Int64)), .second, .val (.int (1 : Int32)), .unset, .unset, .unset, .unset] [(.int (1 : Int32))])
    refine Goes.go (fun _ => XS.istore S.here B.x rfl (B.d at_30) rfl (l' := #[.val (.int p0), .val (.int p1), .val (.long q2), .second, .val (.ref b1), .val (.int (1 : Int32)), .val (.long (0 : Int64)), .second, .val (.int (1 : Int32)), .unset, .unset, .unset, .unset]) rfl) ?_
    show Goes _ _ _ _ T (mkF m 32 #[.val (.int p0), .val (.int p1), .val (.long q2), .second, .val (.ref b1), .val (.int (1 : Int32)), .val (.long (0 : Int64)), .second, .val (.int (1 : Int32)), .unset, .unset, .unset, .unset] [])
    refine Goes.go (fun _ => XS.lload S.here B.x rfl (B.d at_32) rfl) ?_
    show Goes _ _ _ _ T (mkF m 34 #[.val (.int p0), .val (.int p1), .val (.long q2), .second, .val (.ref b1), .val (.int (1 : Int32)), .val (.long (0 : Int64)), .second, .val (.int (1 : Int32)), .unset, .unset, .unset, .unset] [(.long (0 : Int64))])
    refine Goes.go (fun _ => XS.lconst S.here B.x rfl (B.d at_34)) ?_
    show Goes _ _ _ _ T (mkF m 35 #[.val (.int p0), .val (.int p1), .val (.long q2), .second, .val (.ref b1), .val (.int (1 : Int32)), .val (.long (0 : Int64)), .second, .val (.int (1 : Int32)), .unset, .unset, .unset, .unset] [(.long (1 : Int64)), (.long (0 : Int64))])
    refine Goes.go (fun _ => XS.ladd S.here B.x rfl (B.d at_35) rfl) ?_
    show Goes _ _ _ _ T (mkF m 36 #[.val (.int p0), .val (.int p1), .val (.long q2), .second, .val (.ref b1), .val (.int (1 : Int32)), .val (.long (0 : Int64)), .second, .val (.int (1 : Int32)), .unset, .unset, .unset, .unset] [(.long (1 : Int64))])
    refine Goes.go (fun _ => XS.lstore S.here B.x rfl (B.d at_36) rfl (l' := #[.val (.int p0), .val (.int p1), .val (.long q2), .second, .val (.ref b1), .val (.int (1 : Int32)), .val (.long (1 : Int64)), .second, .val (.int (1 : Int32)), .unset, .unset, .unset, .unset]) rfl) ?_
    show Goes _ _ _ _ T (mkF m 38 #[.val (.int p0), .val (.int p1), .val (.long q2), .second, .val (.ref b1), .val (.int (1 : Int32)), .val (.long (1 : Int64)), .second, .val (.int (1 : Int32)), .unset, .unset, .unset, .unset] [])
    refine Goes.go (fun _ => XS.goto S.here B.x rfl (pc0 := 38) (pc' := 50) rfl (B.d at_38) (by decide) (by decide)) ?_
    show Goes _ _ _ _ T (mkF m 50 #[.val (.int p0), .val (.int p1), .val (.long q2), .second, .val (.ref b1), .val (.int (1 : Int32)), .val (.long (1 : Int64)), .second, .val (.int (1 : Int32)), .unset, .unset, .unset, .unset] [])
    exact J2 T _ (1 : Int32) (1 : Int64) (1 : Int32) S E_b1 F_b1_open F_b1_openings
  · skip
    show Goes _ _ _ _ T (mkF m 21 #[.val (.int p0), .val (.int p1), .val (.long q2), .second, .val (.ref b1), .val (.int (0 : Int32)), .val (.long (0 : Int64)), .second, .unset, .unset, .unset, .unset, .unset] [(.int (2 : Int32))])
    refine Goes.go (fun _ => XS.istore S.here B.x rfl (B.d at_21) rfl (l' := #[.val (.int p0), .val (.int p1), .val (.long q2), .second, .val (.ref b1), .val (.int (0 : Int32)), .val (.long (0 : Int64)), .second, .val (.int (2 : Int32)), .unset, .unset, .unset, .unset]) rfl) ?_
    show Goes _ _ _ _ T (mkF m 23 #[.val (.int p0), .val (.int p1), .val (.long q2), .second, .val (.ref b1), .val (.int (0 : Int32)), .val (.long (0 : Int64)), .second, .val (.int (2 : Int32)), .unset, .unset, .unset, .unset] [])
    refine Goes.go (fun _ => XS.iload S.here B.x rfl (B.d at_23) rfl) ?_
    show Goes _ _ _ _ T (mkF m 25 #[.val (.int p0), .val (.int p1), .val (.long q2), .second, .val (.ref b1), .val (.int (0 : Int32)), .val (.long (0 : Int64)), .second, .val (.int (2 : Int32)), .unset, .unset, .unset, .unset] [(.int (2 : Int32))])
    refine Goes.go (fun _ => XS.iconst S.here B.x rfl (B.d at_25)) ?_
    show Goes _ _ _ _ T (mkF m 26 #[.val (.int p0), .val (.int p1), .val (.long q2), .second, .val (.ref b1), .val (.int (0 : Int32)), .val (.long (0 : Int64)), .second, .val (.int (2 : Int32)), .unset, .unset, .unset, .unset] [(.int (1 : Int32)), (.int (2 : Int32))])
    refine Goes.go (fun _ => XS.icmpYes S.here B.x rfl (pc0 := 26) (pc' := 41) rfl (B.d at_26) rfl (by decide) (by decide) (by decide)) ?_
    show Goes _ _ _ _ T (mkF m 41 #[.val (.int p0), .val (.int p1), .val (.long q2), .second, .val (.ref b1), .val (.int (0 : Int32)), .val (.long (0 : Int64)), .second, .val (.int (2 : Int32)), .unset, .unset, .unset, .unset] [])
    refine Goes.go (fun _ => XS.iload S.here B.x rfl (B.d at_41) rfl) ?_
    show Goes _ _ _ _ T (mkF m 43 #[.val (.int p0), .val (.int p1), .val (.long q2), .second, .val (.ref b1), .val (.int (0 : Int32)), .val (.long (0 : Int64)), .second, .val (.int (2 : Int32)), .unset, .unset, .unset, .unset] [(.int (2 : Int32))])
    refine Goes.go (fun _ => XS.iconst S.here B.x rfl (B.d at_43)) ?_
    show Goes _ _ _ _ T (mkF m 44 #[.val (.int p0), .val (.int p1), .val (.long q2), .second, .val (.ref b1), .val (.int (0 : Int32)), .val (.long (0 : Int64)), .second, .val (.int (2 : Int32)), .unset, .unset, .unset, .unset] [(.int (2 : Int32)), (.int (2 : Int32))])
    refine Goes.go (fun _ => XS.icmpNo S.here B.x rfl (B.d at_44) rfl (by decide)) ?_
    show Goes _ _ _ _ T (mkF m 47 #[.val (.int p0), .val (.int p1), .val (.long q2), .second, .val (.ref b1), .val (.int (0 : Int32)), .val (.long (0 : Int64)), .second, .val (.int (2 : Int32)), .unset, .unset, .unset, .unset] [])
    refine Goes.go (fun _ => XS.iconst S.here B.x rfl (B.d at_47)) ?_
    show Goes _ _ _ _ T (mkF m 48 #[.val (.int p0), .val (.int p1), .val (.long q2), .second, .val (.ref b1), .val (.int (0 : Int32)), .val (.long (0 : Int64)), .second, .val (.int (2 : Int32)), .unset, .unset, .unset, .unset] [(.int (0 : Int32))])
    refine Goes.go (fun _ => XS.istore S.here B.x rfl (B.d at_48) rfl (l' := #[.val (.int p0), .val (.int p1), .val (.long q2), .second, .val (.ref b1), .val (.int (0 : Int32)), .val (.long (0 : Int64)), .second, .val (.int (2 : Int32)), .unset, .unset, .unset, .unset]) rfl) ?_
    show Goes _ _ _ _ T (mkF m 50 #[.val (.int p0), .val (.int p1), .val (.long q2), .second, .val (.ref b1), .val (.int (0 : Int32)), .val (.long (0 : Int64)), .second, .val (.int (2 : Int32)), .unset, .unset, .unset, .unset] [])
    exact J2 T _ (0 : Int32) (0 : Int64) (2 : Int32) S E_b1 F_b1_open F_b1_openings
set_option maxRecDepth 65536 in
set_option maxHeartbeats 40000000 in
theorem comes_1 {Post : Tables → Env → Array Value → State → Outcome → State → Prop} (hpost : ∀ tb e args s v u, (limb_1_1.after args s (.returned v) u = true ∧ limb_1_2.after args s (.returned v) u = true ∧ True) → FrameEnd s (.returned v) u (Jvm.fieldLocs frame_1_writes args s ++ Jvm.arrayLocs frame_1_arrays args s ++ Jvm.staticLocs frame_1_statics s) 16 128 → Post tb e args s (.returned v) u) :
    ArmFor flags0 classFile x code maxLocals ret World_1 tables_1 room_1 Calls_1 rest_1 Pre_1 Post := by
  intro l hfl _ _ p e ha hc hk s m args below hf hA hF happ hP
  obtain ⟨hcalls, hrest, hpre⟩ := hP
  obtain ⟨-, -, -, hnamed, -, -, -, hat⟩ := (Spec.applies_iff hf).mp happ
  obtain ⟨hg, hn⟩ := and_e (Cond.before_iff.mp (show (Jvm.Cond.and given_1 narrow_1).before args s = true from hpre))
  obtain ⟨g0, k0⟩ := and_e hg
  obtain ⟨g1, k1⟩ := and_e k0
  obtain ⟨g2, k2⟩ := and_e k1
  have g3 := k2
  obtain ⟨w0, w1, w2, rfl⟩ : ∃ w0 w1 w2 : Value, args = #[w0, w1, w2] := by
    have hs : args.size = 3 := by simpa [Cond.value, given_1] using g0
    obtain ⟨L⟩ := args
    match L, hs with
    | [w0, w1, w2], _ => exact ⟨w0, w1, w2, rfl⟩
  have hw := fun d (hd : d ∈ tables_1) => atoms_spec (ws := Jvm.Cond.code x code maxLocals ret :: tables_1) hat d (List.mem_cons_of_mem _ hd)
  obtain ⟨i0, ei0⟩ := is_v g1
  obtain rfl : w0 = (.int i0) := Option.some.inj ei0
  obtain ⟨i1, ei1⟩ := is_v g2
  obtain rfl : w1 = (.int i1) := Option.some.inj ei1
  obtain ⟨i2, ei2⟩ := isL_v g3
  obtain rfl : w2 = (.long i2) := Option.some.inj ei2
  obtain ⟨n, o, h1, h2, h3, _, L, rfl, ⟨N, rfl⟩, hq⟩ := rm0 l s _ hw i0 i1 i2 s.heap s.heap.size (Nat.le_refl _) tables_1 p e ha hc hk s m _ below hf ((Spec.applies_iff_loose hf).mp happ).1 ⟨rfl, State.Warmed39.refl s, rfl⟩ trivial
  refine ⟨n, _, h1, h2, h3, hpost _ _ _ _ _ _ ⟨Cond.after_iff.mpr rfl, Cond.after_iff.mpr (eq_i res_at (Term.int_eval (1)) rfl), trivial⟩ ⟨hq.1, hq.2.1, (hq.2.2.sift fun y hy => Or.inr (N y hy)).mono (by decide) (by decide)⟩⟩
theorem main_1_1 : Claimed_1_1 := comes_1 fun _ _ _ _ _ _ h hF => ⟨h.1, hF⟩
theorem main_1_2 : Claimed_1_2 := comes_1 fun _ _ _ _ _ _ h hF => ⟨h.2.1, hF⟩
end Jvm.Pilot.@@N@@
namespace Jvm.Pilot.@@N@@
open Jvm Jvm.ClassFile Sem Op Lib Jvm.Free Jvm.Stand Jvm.Pilot.@@N@@.Jvm.D
/-! MADE BY PROGRAM (witnessworld.py) out of the Statement's table words and the real class files: 9 classes; the members and pool entries that the words name. The judged class is class 1, her method 2. -/
namespace start1
open Jvm.ClassFile
def u (s : String) : CpInfo := .utf8 (stringToUtf16 s)
/-- a pool by its gaps: so many unusable entries, then the entry; so many at the end -/
def gap : Nat → List CpInfo → List CpInfo
  | 0, r => r
  | n + 1, r => .unusable :: gap n r
def poolList (es : List (Nat × CpInfo)) (last : Nat) : List CpInfo := es.foldr (fun e r => gap e.1 (e.2 :: r)) (gap last [])
def pool (es : List (Nat × CpInfo)) (last : Nat) : Array CpInfo := ⟨poolList es last⟩
def fileOf (pool : Array CpInfo) (this : Nat) (attrs : Array Attribute := #[]) (ms : Array MethodInfo := #[]) (fl : Nat := 33) (sup : Nat := 0) (ifs : Array Nat := #[]) (fds : Array FieldInfo := #[]) : ClassFile where
  minorVersion := 0
  majorVersion := 65
  constantPool := pool
  accessFlags := fl
  thisClass := this
  superClass := sup
  interfaces := ifs
  fields := fds
  methods := ms
  attributes := attrs
def plain (name : String) (sup : Option ClassId) : Class where
  name := name
  kind := .ordinary
  loader := none
  accessFlags := 33
  super := sup
  interfaces := #[]
  cf := none
  fields := #[]
  methods := #[]
  instanceTypes := #[]
  staticTypes := #[]
  resolved := #[]
  callSites := []
  init := .initialized
  statics := none
  mirror := none

def pool0 : Array CpInfo := pool [(5, u "<init>"), (0, u "()V"), (1, .class_ 10), (1, u "java/lang/Object")] 113

def k0c0 : Code := { maxStack := 0, maxLocals := 1, code := object_method_1_code, exceptionTable := #[], attributes := #[] }
def k0m0 : Method := { name := "<init>", desc := "()V", sig := { parameters := [], returnType := none }, accessFlags := 1, code := some k0c0 }
/-- java/lang/Object -/
def k0 : Class := { plain "java/lang/Object" none with
  accessFlags := 33
  interfaces := #[]
  cf := some (fileOf pool0 8 #[] #[{ accessFlags := 1, nameIndex := 5, descriptorIndex := 6, attributes := #[] }] 33 0 #[] #[])
  fields := #[]
  methods := #[k0m0]
  instanceTypes := #[]
  staticTypes := #[]
  resolved := Array.replicate 124 none
  statics := none }

def pool1 : Array CpInfo := pool [(2, .class_ 4), (0, .nameAndType 5 6), (0, u "java/lang/Object"), (0, u "<init>"), (0, u "()V"), (0, .methodref 8 9), (0, .class_ 10), (0, .nameAndType 11 6), (0, u "com/example/cormorant/cormorant/sim/Channel"), (0, u "open"), (0, .methodref 8 13), (0, .nameAndType 14 6), (0, u "close"), (0, .methodref 8 3), (0, .methodref 17 18), (0, .class_ 19), (0, .nameAndType 20 21), (0, u "com/example/cormorant/cormorant/sim/ChannelCarriesPinLaw"), (0, u "step"), (0, u "(Lcom/example/cormorant/cormorant/sim/Channel;I)I"), (0, .methodref 8 23), (0, .nameAndType 24 25), (0, u "carries"), (0, u "(J)Z"), (3, u "law"), (0, u "(IIJ)Z")] 2

def k1m0 : Method := { name := "<init>", desc := "()V", sig := { parameters := [], returnType := none }, accessFlags := 1, code := none }
def k1c1 : Code := { maxStack := 2, maxLocals := 2, code := method_2_code, exceptionTable := #[], attributes := #[] }
def k1m1 : Method := { name := "step", desc := "(Lcom/example/cormorant/cormorant/sim/Channel;I)I", sig := { parameters := [(.object "com/example/cormorant/cormorant/sim/Channel"), .int], returnType := some .int }, accessFlags := 10, code := some k1c1 }
def k1c2 : Code := { maxStack := 4, maxLocals := 13, code := code, exceptionTable := #[], attributes := #[] }
def k1m2 : Method := { name := "law", desc := "(IIJ)Z", sig := { parameters := [.int, .int, .long], returnType := some .boolean }, accessFlags := 9, code := some k1c2 }
/-- com/example/cormorant/cormorant/sim/ChannelCarriesPinLaw -/
def k1 : Class := { plain "com/example/cormorant/cormorant/sim/ChannelCarriesPinLaw" (some 0) with
  accessFlags := 49
  interfaces := #[]
  cf := some (fileOf pool1 17 #[] #[{ accessFlags := 1, nameIndex := 5, descriptorIndex := 6, attributes := #[] }, { accessFlags := 10, nameIndex := 20, descriptorIndex := 21, attributes := #[] }, { accessFlags := 9, nameIndex := 29, descriptorIndex := 30, attributes := #[] }] 49 2 #[] #[])
  fields := #[]
  methods := #[k1m0, k1m1, k1m2]
  instanceTypes := #[]
  staticTypes := #[]
  resolved := Array.replicate 33 none
  statics := none }

def pool2 : Array CpInfo := pool [(1, .methodref 2 3), (0, .class_ 4), (0, .nameAndType 5 6), (0, u "java/lang/Object"), (0, u "<init>"), (0, u "()V"), (0, .long 18446744073709551615), (1, .fieldref 10 11), (0, .class_ 12), (0, .nameAndType 13 14), (0, u "com/example/cormorant/cormorant/sim/Channel"), (0, u "lastNotice"), (0, u "J"), (0, .fieldref 10 16), (0, .nameAndType 17 18), (0, u "open"), (0, u "Z"), (0, .fieldref 10 20), (0, .nameAndType 21 14), (0, u "openings"), (2, u "lastArrival"), (8, u "close"), (4, u "carries"), (0, u "(J)Z")] 7

def k2c0 : Code := { maxStack := 3, maxLocals := 1, code := prog_70_method_1_code, exceptionTable := #[], attributes := #[] }
def k2m0 : Method := { name := "<init>", desc := "()V", sig := { parameters := [], returnType := none }, accessFlags := 0, code := some k2c0 }
def k2c1 : Code := { maxStack := 5, maxLocals := 1, code := prog_70_method_2_code, exceptionTable := #[], attributes := #[] }
def k2m1 : Method := { name := "open", desc := "()V", sig := { parameters := [], returnType := none }, accessFlags := 0, code := some k2c1 }
def k2c2 : Code := { maxStack := 2, maxLocals := 1, code := prog_70_method_3_code, exceptionTable := #[], attributes := #[] }
def k2m2 : Method := { name := "close", desc := "()V", sig := { parameters := [], returnType := none }, accessFlags := 0, code := some k2c2 }
def k2c3 : Code := { maxStack := 4, maxLocals := 3, code := prog_70_method_6_code, exceptionTable := #[], attributes := #[] }
def k2m3 : Method := { name := "carries", desc := "(J)Z", sig := { parameters := [.long], returnType := some .boolean }, accessFlags := 0, code := some k2c3 }
/-- com/example/cormorant/cormorant/sim/Channel -/
def k2 : Class := { plain "com/example/cormorant/cormorant/sim/Channel" (some 0) with
  accessFlags := 32
  interfaces := #[]
  cf := some (fileOf pool2 10 #[] #[{ accessFlags := 0, nameIndex := 5, descriptorIndex := 6, attributes := #[] }, { accessFlags := 0, nameIndex := 17, descriptorIndex := 6, attributes := #[] }, { accessFlags := 0, nameIndex := 33, descriptorIndex := 6, attributes := #[] }, { accessFlags := 0, nameIndex := 38, descriptorIndex := 39, attributes := #[] }] 32 2 #[] #[{ accessFlags := 2, nameIndex := 17, descriptorIndex := 18, attributes := #[] }, { accessFlags := 2, nameIndex := 21, descriptorIndex := 14, attributes := #[] }, { accessFlags := 2, nameIndex := 24, descriptorIndex := 14, attributes := #[] }, { accessFlags := 2, nameIndex := 13, descriptorIndex := 14, attributes := #[] }])
  fields := #[{ name := "open", type := .boolean, accessFlags := 2, slot := 0, constantValue := 0 }, { name := "openings", type := .long, accessFlags := 2, slot := 1, constantValue := 0 }, { name := "lastArrival", type := .long, accessFlags := 2, slot := 2, constantValue := 0 }, { name := "lastNotice", type := .long, accessFlags := 2, slot := 3, constantValue := 0 }]
  methods := #[k2m0, k2m1, k2m2, k2m3]
  instanceTypes := #[.boolean, .long, .long, .long]
  staticTypes := #[]
  resolved := Array.replicate 47 none
  statics := none }

def pool3 : Array CpInfo := pool [(1, u "java/lang/Cloneable"), (0, .class_ 1), (0, u "java/lang/Object"), (0, .class_ 3)] 3

/-- java/lang/Cloneable -/
def k3 : Class := { plain "java/lang/Cloneable" (some 0) with
  accessFlags := 1537
  interfaces := #[]
  cf := some (fileOf pool3 2 #[] #[] 1537 4 #[] #[])
  fields := #[]
  methods := #[]
  instanceTypes := #[]
  staticTypes := #[]
  resolved := Array.replicate 8 none
  statics := none }

def pool4 : Array CpInfo := pool [(1, u "java/io/Serializable"), (0, .class_ 1), (0, u "java/lang/Object"), (0, .class_ 3)] 3

/-- java/io/Serializable -/
def k4 : Class := { plain "java/io/Serializable" (some 0) with
  accessFlags := 1537
  interfaces := #[]
  cf := some (fileOf pool4 2 #[] #[] 1537 4 #[] #[])
  fields := #[]
  methods := #[]
  instanceTypes := #[]
  staticTypes := #[]
  resolved := Array.replicate 8 none
  statics := none }

/-- the primitive byte -/
def k5 : Class := { plain "byte" none with kind := .primitive 'B', accessFlags := 0x411 }
/-- [B -/
def k6 : Class := { plain "[B" (some 0) with kind := .array 5 .byte, interfaces := #[3, 4], accessFlags := 1041 }

/-- the primitive int -/
def k7 : Class := { plain "int" none with kind := .primitive 'I', accessFlags := 0x411 }
/-- [I -/
def k8 : Class := { plain "[I" (some 0) with kind := .array 7 .int, interfaces := #[3, 4], accessFlags := 1041 }

def heap : Heap := #[]
def classes : Array Class := #[k0, k1, k2, k3, k4, k5, k6, k7, k8]
def interned : List (Array UInt16 × Addr) := []
def slotsUsed : Nat := 0
def theMethod : MethodId := ⟨1, 2⟩
def args0 : Array Value := #[.int 5, .int 1, .long 7]
def aboutOver (below : List Frame) : State where
  vm := { classes := classes, interned := interned.toArray }
  heap := heap
  slotsUsed := slotsUsed
  threads := #[{ frames := .invoking theMethod args0 :: below }]
def below0 : List Frame := [.native { method := ⟨0, 0⟩, args := #[] }]
def about1 : State := aboutOver below0
def p0 : Program := .bare "" "" ""
def e0 : Env := launch0.env 0 0 0
theorem w_frames : about1.frames = Frame.invoking theMethod args0 :: below0 := rfl
set_option maxRecDepth 65536 in
theorem w_args : argsFit about1.vm theMethod args0 = true := by decide +kernel
set_option maxRecDepth 65536 in
theorem w_heap : heapFits about1 = true := by decide +kernel
set_option maxRecDepth 65536 in
theorem w_runnable : about1.curStatus? = some .runnable := by decide +kernel
set_option maxRecDepth 65536 in
theorem w_alone : about1.alone = true := by decide +kernel
set_option maxRecDepth 65536 in
theorem w_named : about1.methodNamed? x = some theMethod := by decide +kernel
set_option maxRecDepth 65536 in
theorem w_hears : about1.hears theMethod below0 = true := by decide +kernel
set_option maxRecDepth 65536 in
theorem w_ripe : about1.ripe theMethod args0 below0 = true := by decide +kernel
theorem w_running : about1.status = .running := rfl
set_option maxRecDepth 65536 in
theorem w_room : about1.hasRoom e0.platform room_1 = true :=
  launch0.hasRoom_least _ room_1 (by decide +kernel) (by decide +kernel) (by decide +kernel) (by decide +kernel) (by decide +kernel) (by decide +kernel)
theorem allAtoms_all (ts : List Jvm.Cond) (a : Array Jvm.Value) (st : Jvm.State) : (allAtoms ts).before a st = ts.all (fun c => c.before a st) := by
  induction ts with
  | nil => rfl
  | cons c t ih =>
    show (Jvm.Cond.and c (allAtoms t)).before a st = _
    rw [Jvm.Cond.before_and, ih, List.all_cons]
def words1 : List Jvm.Cond := Jvm.Cond.code x code maxLocals ret :: tables_1
/-- a 'code' word, met by the world's own term for the bytes: nothing is compared byte by byte -/
theorem code_word {y : MethodName} {bytes : ByteArray} {mx : Nat} {rt : Option FieldType} {a : Array Value} {s : State} {m : MethodId} {meth : Method} {c : Code} (h1 : s.methodNamed? y = some m) (h2 : s.vm.method? m = some meth) (h3 : meth.code = some c) (h4 : c.code = bytes)
    (h5 : (c.maxLocals == mx && c.exceptionTable.isEmpty && decide (c.maxStack ≤ mostOperands) && decide (meth.sig.returnType = rt) && !meth.locks && decide (parseMethodDescriptor y.desc = some meth.sig)) = true) : (Jvm.Cond.code y bytes mx rt).before a s = true := by
  simp only [Bool.and_eq_true, beq_iff_eq, Bool.not_eq_true', decide_eq_true_eq] at h5
  obtain ⟨⟨⟨⟨⟨g1, g2⟩, g3⟩, g4⟩, g5⟩, g6⟩ := h5
  simp [Cond.before, Cond.holds, Cond.value, h1, h2, h3, h4, g1, g2, g3, g4, g5, g6]
def isCode : Jvm.Cond → Bool
  | .code _ _ _ _ => true
  | _ => false
theorem all_split {L : List Jvm.Cond} {P : Jvm.Cond → Bool} (h1 : L.all (fun c => isCode c || P c) = true) (h2 : ∀ c ∈ L.filter isCode, P c = true) : L.all P = true := by
  refine List.all_eq_true.mpr fun c hc => ?_
  have h := List.all_eq_true.mp h1 c hc
  rcases Bool.eq_false_or_eq_true (isCode c) with hi | hi
  · exact h2 c (List.mem_filter.mpr ⟨hc, hi⟩)
  · simpa [hi] using h
set_option maxRecDepth 65536 in
theorem w_c0 : (Jvm.Cond.code x code maxLocals ret).before args0 about1 = true := code_word (m := ⟨1, 2⟩) (meth := k1m2) (c := k1c2) (by decide +kernel) rfl rfl rfl (by decide +kernel)
set_option maxRecDepth 65536 in
theorem w_c1 : (Jvm.Cond.code ({ cls := "com/example/cormorant/cormorant/sim/Channel", name := "<init>", desc := "()V" } : Jvm.MethodName) prog_70_method_1_code (1 : Nat) (Option.none : Option Jvm.ClassFile.FieldType)).before args0 about1 = true := code_word (m := ⟨2, 0⟩) (meth := k2m0) (c := k2c0) (by decide +kernel) rfl rfl rfl (by decide +kernel)
set_option maxRecDepth 65536 in
theorem w_c2 : (Jvm.Cond.code ({ cls := "java/lang/Object", name := "<init>", desc := "()V" } : Jvm.MethodName) object_method_1_code (1 : Nat) (Option.none : Option Jvm.ClassFile.FieldType)).before args0 about1 = true := code_word (m := ⟨0, 0⟩) (meth := k0m0) (c := k0c0) (by decide +kernel) rfl rfl rfl (by decide +kernel)
set_option maxRecDepth 65536 in
theorem w_c3 : (Jvm.Cond.code ({ cls := "com/example/cormorant/cormorant/sim/ChannelCarriesPinLaw", name := "step", desc := "(Lcom/example/cormorant/cormorant/sim/Channel;I)I" } : Jvm.MethodName) method_2_code (2 : Nat) (Option.some Jvm.ClassFile.FieldType.int)).before args0 about1 = true := code_word (m := ⟨1, 1⟩) (meth := k1m1) (c := k1c1) (by decide +kernel) rfl rfl rfl (by decide +kernel)
set_option maxRecDepth 65536 in
theorem w_c4 : (Jvm.Cond.code ({ cls := "com/example/cormorant/cormorant/sim/Channel", name := "carries", desc := "(J)Z" } : Jvm.MethodName) prog_70_method_6_code (3 : Nat) (Option.some Jvm.ClassFile.FieldType.boolean)).before args0 about1 = true := code_word (m := ⟨2, 3⟩) (meth := k2m3) (c := k2c3) (by decide +kernel) rfl rfl rfl (by decide +kernel)
set_option maxRecDepth 65536 in
theorem w_c5 : (Jvm.Cond.code ({ cls := "com/example/cormorant/cormorant/sim/Channel", name := "open", desc := "()V" } : Jvm.MethodName) prog_70_method_2_code (1 : Nat) (Option.none : Option Jvm.ClassFile.FieldType)).before args0 about1 = true := code_word (m := ⟨2, 1⟩) (meth := k2m1) (c := k2c1) (by decide +kernel) rfl rfl rfl (by decide +kernel)
set_option maxRecDepth 65536 in
theorem w_c6 : (Jvm.Cond.code ({ cls := "com/example/cormorant/cormorant/sim/Channel", name := "close", desc := "()V" } : Jvm.MethodName) prog_70_method_3_code (1 : Nat) (Option.none : Option Jvm.ClassFile.FieldType)).before args0 about1 = true := code_word (m := ⟨2, 2⟩) (meth := k2m2) (c := k2c2) (by decide +kernel) rfl rfl rfl (by decide +kernel)
def codes1 : List Jvm.Cond := [Jvm.Cond.code x code maxLocals ret, Jvm.Cond.code ({ cls := "com/example/cormorant/cormorant/sim/Channel", name := "<init>", desc := "()V" } : Jvm.MethodName) prog_70_method_1_code (1 : Nat) (Option.none : Option Jvm.ClassFile.FieldType), Jvm.Cond.code ({ cls := "java/lang/Object", name := "<init>", desc := "()V" } : Jvm.MethodName) object_method_1_code (1 : Nat) (Option.none : Option Jvm.ClassFile.FieldType), Jvm.Cond.code ({ cls := "com/example/cormorant/cormorant/sim/ChannelCarriesPinLaw", name := "step", desc := "(Lcom/example/cormorant/cormorant/sim/Channel;I)I" } : Jvm.MethodName) method_2_code (2 : Nat) (Option.some Jvm.ClassFile.FieldType.int), Jvm.Cond.code ({ cls := "com/example/cormorant/cormorant/sim/Channel", name := "carries", desc := "(J)Z" } : Jvm.MethodName) prog_70_method_6_code (3 : Nat) (Option.some Jvm.ClassFile.FieldType.boolean), Jvm.Cond.code ({ cls := "com/example/cormorant/cormorant/sim/Channel", name := "open", desc := "()V" } : Jvm.MethodName) prog_70_method_2_code (1 : Nat) (Option.none : Option Jvm.ClassFile.FieldType), Jvm.Cond.code ({ cls := "com/example/cormorant/cormorant/sim/Channel", name := "close", desc := "()V" } : Jvm.MethodName) prog_70_method_3_code (1 : Nat) (Option.none : Option Jvm.ClassFile.FieldType)]
set_option maxRecDepth 65536 in
theorem codes_eq : words1.filter isCode = codes1 := rfl
theorem w_codes : ∀ c ∈ words1.filter isCode, c.before args0 about1 = true := by
  rw [codes_eq]
  intro c hc
  simp only [codes1, List.mem_cons, List.not_mem_nil, or_false] at hc
  rcases hc with rfl | rfl | rfl | rfl | rfl | rfl | rfl
  · exact w_c0
  · exact w_c1
  · exact w_c2
  · exact w_c3
  · exact w_c4
  · exact w_c5
  · exact w_c6
set_option maxRecDepth 65536 in
theorem w_t1 : (words1.take 24).all (fun c => isCode c || c.before args0 about1) = true := by decide +kernel
set_option maxRecDepth 65536 in
theorem w_t2 : (words1.drop 24).all (fun c => isCode c || c.before args0 about1) = true := by decide +kernel
theorem w_tables : (allAtoms (Jvm.Cond.code x code maxLocals ret :: tables_1)).before args0 about1 = true := by
  rw [allAtoms_all]
  show words1.all (fun c => c.before args0 about1) = true
  refine all_split ?_ w_codes
  rw [← List.take_append_drop 24 words1, List.all_append, w_t1, w_t2]
  rfl
set_option maxRecDepth 65536 in
theorem w_case : (Jvm.Cond.and given_1 narrow_1).before args0 about1 = true := by decide +kernel
theorem w_applies : (headSpec (Jvm.Cond.code x code maxLocals ret :: tables_1) room_1).applies x e0.platform about1 = true :=
  (Spec.applies_iff w_frames).mpr ⟨w_running, w_runnable, w_alone, w_named, w_hears, w_ripe, w_room, w_tables⟩
theorem atStart : AtStart classFile x code maxLocals ret World_1 tables_1 room_1 Calls_1 rest_1 Pre_1 launch0 p0 e0 about1 theMethod args0 below0 :=
  ⟨lists_1, trivial, launch0.admits_env _ _ _, launch0.least_env, fairChoices_fair.cas, fairChoices_fair.clock, w_frames, w_args, w_heap, w_applies, trivial, trivial, w_case⟩
end start1
theorem witness_1 : WitnessClaimed_1 := ⟨start1.p0, start1.e0, start1.about1, start1.theMethod, start1.args0, start1.below0, start1.atStart⟩
end Jvm.Pilot.@@N@@
