import JvmDerived
import JvmDerived.Pilot.@@N@@Statement
import JvmDerived.Pilot.@@N@@Code
set_option linter.unusedVariables false
set_option linter.unusedSimpArgs false
namespace Jvm.OwnKit
open Sem ClassFile Op Lib Jvm.Stand Jvm.Free Jvm.LawKit Jvm.RoadKit
/-! A small layer of my own over the library's laws: 'Goes': from this frame the body comes to its end; each law turned so that it reads backwards. -/
def Goes (tb : Tables) (e : Env) (below : List Frame) (Φ : Outcome → State → Prop) (T : State) (f : JFrame) : Prop :=
  ∃ s₂ o, Steps tb e below (T.setTop f) s₂ ∧ s₂.status = .running ∧ Ended s₂ below o ∧ Φ o s₂
def Fine (s : State) (n0 : Nat) (Q : Option Value → Heap → Prop) (rc rs : Nat) (o : Outcome) (U : State) : Prop :=
  ∃ v L, o = .returned v ∧ (Fr n0 L ∧ Q v U.heap) ∧ FrameEnd s o U L rc rs
def Base (p : Program) (s : State) (m : MethodId) (meth : Method) (c : Code) (Z : State) (y : MethodName) (bytes : ByteArray) (maxL : Nat) (ret : Option FieldType) : Prop :=
  p.tables.exec = Jvm.exec ∧ Z.Warmed39 s.vm ∧ c.code = bytes ∧ c.maxLocals = maxL ∧ s.vm.findClass y.cls = some m.cls ∧ meth.name = y.name ∧ meth.sig.returnType = ret ∧ meth.locks = false
def Sd (p : Program) (l : Launch) (e : Env) (R : Room) (s : State) (m : MethodId) (args : Array Value) (below : List Frame) (meth : Method) (c : Code) (T : State) (h : Heap) (n0 cells slots : Nat) : Prop :=
  ∃ locs, Stand p l e R s m args below meth c T locs cells slots ∧ T.heap = h ∧ Fr n0 locs ∧ n0 ≤ s.heap.size
def Con (l : Launch) (Z : State) (y : MethodName) (bytes : ByteArray) (maxL : Nat) (ret : Option FieldType) (rm : Room) (as' : Array Value) (h0 : Heap) (n0 : Nat) (Q : Option Value → Heap → Prop) : Prop :=
  n0 ≤ h0.size → ∀ ws : List Cond, MetFree l y (head1 (Cond.code y bytes maxL ret :: ws) rm) (fun a U => a = as' ∧ Z.Warmed39 U.vm ∧ U.heap = h0) (fun _ _ _ _ _ => True) (fun _ U o U' => ∃ v L, o = .returned v ∧ (Fr n0 L ∧ Q v U'.heap) ∧ FrameEnd U o U' L rm.cells rm.slots)
/-! a condition as 1 or 0 -/
def bi (P : Prop) [Decidable P] : Int32 := if P then 1 else 0
theorem bi_pos {P : Prop} [Decidable P] (h : P) : bi P = 1 := if_pos h
theorem bi_neg {P : Prop} [Decidable P] (h : ¬ P) : bi P = 0 := if_neg h
theorem bi_ne {P : Prop} [Decidable P] (h : P) : ¬ bi P = 0 := by rw [bi_pos h]; decide
theorem bi_congr {P P' : Prop} [Decidable P] [Decidable P'] (h : P ↔ P') : bi P = bi P' := by by_cases q : P <;> simp [bi, q, h.mp, ← h]
theorem bi_one {P : Prop} [Decidable P] : bi P = 1 ↔ P := by by_cases q : P <;> simp [bi, q]
theorem bi_zero {P : Prop} [Decidable P] : bi P = 0 ↔ ¬ P := by by_cases q : P <;> simp [bi, q]
theorem bi_inj {P P' : Prop} [Decidable P] [Decidable P'] : bi P = bi P' ↔ (P ↔ P') := by by_cases q : P <;> by_cases q' : P' <;> simp [bi, q, q']
theorem bi_or {P : Prop} [Decidable P] : bi P = 0 ∨ bi P = 1 := by by_cases q : P <;> simp [bi, q]
theorem nar_bi {P : Prop} [Decidable P] : nar .boolean (bi P) = bi P := by by_cases q : P <;> simp [bi, q, nar]
theorem fits_bi {P : Prop} [Decidable P] : fits .boolean (.int (bi P)) = true := by by_cases q : P <;> simp [bi, q] <;> decide
theorem narrow_bi {P : Prop} [Decidable P] : narrow .boolean (.int (bi P)) = .int (bi P) := by by_cases q : P <;> simp [bi, q] <;> rfl
section Lay
variable {p : Program} {l : Launch} {e : Env} {R : Room} {s : State} {m : MethodId} {args : Array Value} {below : List Frame} {meth : Method} {c : Code} {T : State} {h : Heap} {n0 cells slots : Nat} {Z : State} {a0 : Array Value} {Φ : Outcome → State → Prop} {y0 : MethodName} {bytes0 : ByteArray} {maxL0 : Nat} {ret0 : Option FieldType} {pc : Nat} {Ls : Array Slot} {st rest : List Value}
theorem Goes.go {tb : Tables} {T' : State} {f f' : JFrame} (k : ∀ t, Steps tb e below (T'.setTop f') t → Steps tb e below (T.setTop f) t) (g : Goes tb e below Φ T' f') : Goes tb e below Φ T f := by
  obtain ⟨s2, o, h1, h2⟩ := g
  exact ⟨s2, o, k _ h1, h2⟩
theorem Goes.dia {tb : Tables} {P : Prop} [Decidable P] {f : JFrame} {mk : Int32 → JFrame} (h1 : P → Goes tb e below Φ T (mk 1) → Goes tb e below Φ T f) (h0 : ¬ P → Goes tb e below Φ T (mk 0) → Goes tb e below Φ T f) (k : Goes tb e below Φ T (mk (bi P))) : Goes tb e below Φ T f := by
  by_cases q : P
  · rw [bi_pos q] at k; exact h1 q k
  · rw [bi_neg q] at k; exact h0 q k
theorem Goes.cast {tb : Tables} {f f' : JFrame} (q : f = f') (g : Goes tb e below Φ T f') : Goes tb e below Φ T f := q ▸ g
theorem Sd.here (S : Sd p l e R s m args below meth c T h n0 cells slots) : At T m c below := by obtain ⟨_, X, -⟩ := S; exact X.here
theorem Sd.le (S : Sd p l e R s m args below meth c T h n0 cells slots) : n0 ≤ h.size := by
  obtain ⟨_, X, e, -, q⟩ := S
  have h1 := X.same.2.1
  have h2 : s.heap.size ≤ T.heap.size := h1
  rw [e] at h2
  exact Nat.le_trans q h2
theorem Base.x (B : Base p s m meth c Z y0 bytes0 maxL0 ret0) : p.tables.exec = Jvm.exec := B.1
theorem Base.d (B : Base p s m meth c Z y0 bytes0 maxL0 ret0) {r : Except DecodeError (Instr × Nat)} (hd : decode bytes0 pc = r) : decode c.code pc = r := B.2.2.1 ▸ hd
theorem Con.body {y : MethodName} {bytes : ByteArray} {maxL : Nat} {ret : Option FieldType} {rm : Room} {as' : Array Value} {h0 : Heap} {Q : Option Value → Heap → Prop} (hpl : plainFor y = true)
    (k : ∀ (p : Program) (e : Env) (s : State) (m : MethodId) (below : List Frame) (meth : Method) (c : Code) (T : State), Base p s m meth c Z y bytes maxL ret → Sd p l e rm s m as' below meth c T h0 n0 0 0 → Goes p.tables e below (Fine s n0 Q rm.cells rm.slots) T (entryFrame m as' maxL)) :
    Con l Z y bytes maxL ret rm as' h0 n0 Q := by
  intro hn ws
  refine MetFree.of_bodySF hpl hisR ?_
  intro p e s m args below meth c s₁ Bd hml0 hP hK
  obtain ⟨rfl, hZ, hh⟩ := hP
  have e0 : s₁.heap = h0 := by rw [← hh, Bd.state]; rfl
  exact k p e s m below meth c s₁ ⟨Bd.exec, hZ, Bd.bytes, hml0, findClass_of_methodNamed Bd.named, (name_of_methodNamed Bd.named Bd.method).1, Bd.returns, Bd.notSynchronized⟩ ⟨[], Stand.of_body Bd, e0, Fr.nil n0, by rw [hh]; exact hn⟩
theorem Goes.acmp {cd : ACond} {x y : Value} {o : Int} {pc' : Nat} {same : Bool} (S : Sd p l e R s m args below meth c T h n0 cells slots) (B : Base p s m meth c Z y0 bytes0 maxL0 ret0) (h1 : x.isRef = true) (h2 : y.isRef = true) (hd : decode bytes0 pc = .ok (.if_acmp cd o, 3)) (hq : decide (x = y) = same) (ho : 0 ≤ (pc : Int) + o) (hp : pc' = if acV cd same = true then ((pc : Int) + o).toNat else pc + 3)
    (k : Goes p.tables e below Φ T (mkF m pc' Ls rest)) : Goes p.tables e below Φ T (mkF m pc Ls (y :: x :: rest)) := by
  obtain ⟨locs, X, eT, N, hn⟩ := S
  exact Goes.go (fun t => RoadKit.acmp X B.1 (g := mkF m pc Ls (y :: x :: rest)) rfl h1 h2 (pc0 := pc) (pc' := pc') (same := same) rfl (B.d hd) rfl hq ho hp) k
theorem Goes.pop2L {z : Int64} (S : Sd p l e R s m args below meth c T h n0 cells slots) (B : Base p s m meth c Z y0 bytes0 maxL0 ret0) (hd : decode bytes0 pc = .ok (.pop2, 1)) (k : Goes p.tables e below Φ T (mkF m (pc + 1) Ls rest)) : Goes p.tables e below Φ T (mkF m pc Ls (.long z :: rest)) := by
  obtain ⟨locs, X, eT, N, hn⟩ := S
  refine Goes.go (fun t kk => ?_) k
  have hx := B.1
  have hd' := B.d hd
  show Steps p.tables e below (T.setTop { method := m, pc := pc, locals := Ls, stack := _ :: rest, locked := none }) _
  jvm_step X.here [X.here.top, hx, hd', Value.category]
  exact kk
theorem Goes.irem {x y : Int32} (S : Sd p l e R s m args below meth c T h n0 cells slots) (B : Base p s m meth c Z y0 bytes0 maxL0 ret0) (hd : decode bytes0 pc = .ok (.irem, 1)) (hy : y ≠ 0) (k : Goes p.tables e below Φ T (mkF m (pc + 1) Ls (.int (x % y) :: rest))) : Goes p.tables e below Φ T (mkF m pc Ls (.int y :: .int x :: rest)) := by
  obtain ⟨locs, X, eT, N, hn⟩ := S
  exact Goes.go (fun t => RoadKit.iremM X B.1 (g := mkF m pc Ls (.int y :: .int x :: rest)) rfl (B.d hd) rfl hy) k
theorem Goes.lrem {x y : Int64} (S : Sd p l e R s m args below meth c T h n0 cells slots) (B : Base p s m meth c Z y0 bytes0 maxL0 ret0) (hd : decode bytes0 pc = .ok (.lrem, 1)) (hy : y ≠ 0) (k : Goes p.tables e below Φ T (mkF m (pc + 1) Ls (.long (x % y) :: rest))) : Goes p.tables e below Φ T (mkF m pc Ls (.long y :: .long x :: rest)) := by
  obtain ⟨locs, X, eT, N, hn⟩ := S
  refine Goes.go (fun t kk => XS.lrem X.here B.1 (g := mkF m pc Ls (.long y :: .long x :: rest)) rfl (B.d hd) rfl hy ?_) k
  rw [lrem_mod]
  exact kk
/-! the ends -/
section Ends
variable {Q : Option Value → Heap → Prop} {rc rs : Nat}
theorem Goes.retV (S : Sd p l e R s m args below meth c T h n0 cells slots) (B : Base p s m meth c Z y0 bytes0 maxL0 none) (hd : decode bytes0 pc = .ok (.return_, 1)) (hc : cells ≤ rc) (hs : slots ≤ rs) (hq : Q none h) :
    Goes p.tables e below (Fine s n0 Q rc rs) T (mkF m pc Ls []) := by
  obtain ⟨locs, X, eT, N, -⟩ := S
  obtain ⟨fs, hr, hrun, hended, hW, hsame⟩ := X.leave (v := none) (fun _ => rfl) B.2.2.2.2.2.2.2
  subst eT
  exact ⟨_, _, X.returnOut B.1 B.2.2.2.2.2.2.1 (B.d hd) hr, hrun, hended, _, _, rfl, ⟨N, hq⟩, ⟨_, rfl⟩, hW, hsame.mono hc hs⟩
theorem Goes.retN {t : FieldType} {z : Int32} (S : Sd p l e R s m args below meth c T h n0 cells slots) (B : Base p s m meth c Z y0 bytes0 maxL0 (some t)) (ht : t = .boolean ∨ t = .byte ∨ t = .char ∨ t = .short) (hd : decode bytes0 pc = .ok (.ireturn, 1)) (hc : cells ≤ rc) (hs : slots ≤ rs) (hq : Q (some (.int (nar t z))) h) :
    Goes p.tables e below (Fine s n0 Q rc rs) T (mkF m pc Ls (.int z :: rest)) := by
  obtain ⟨locs, X, eT, N, -⟩ := S
  obtain ⟨fs, hr, hrun, hended, hW, hsame⟩ := X.leave (v := some (.int (nar t z))) (fun h => by rw [B.2.2.2.2.2.2.1] at h; cases h) B.2.2.2.2.2.2.2
  subst eT
  exact ⟨_, _, RoadKit.retN X B.1 B.2.2.2.2.2.2.1 ht (B.d hd) hr, hrun, hended, _, _, rfl, ⟨N, hq⟩, ⟨_, rfl⟩, hW, hsame.mono hc hs⟩
theorem Goes.retI {z : Int32} (S : Sd p l e R s m args below meth c T h n0 cells slots) (B : Base p s m meth c Z y0 bytes0 maxL0 (some .int)) (hd : decode bytes0 pc = .ok (.ireturn, 1)) (hc : cells ≤ rc) (hs : slots ≤ rs) (hq : Q (some (.int z)) h) :
    Goes p.tables e below (Fine s n0 Q rc rs) T (mkF m pc Ls (.int z :: rest)) := by
  obtain ⟨locs, X, eT, N, -⟩ := S
  obtain ⟨fs, hr, hrun, hended, hW, hsame⟩ := X.leave (v := some (.int z)) (fun h => by rw [B.2.2.2.2.2.2.1] at h; cases h) B.2.2.2.2.2.2.2
  subst eT
  refine ⟨_, _, ?_, hrun, hended, _, _, rfl, ⟨N, hq⟩, ⟨_, rfl⟩, hW, hsame.mono hc hs⟩
  have hm' : T.vm.method? m = some meth := X.method'
  have hn : narrow .int (.int z) = .int z := rfl
  have hx := B.1
  have hret := B.2.2.2.2.2.2.1
  have hd' := B.d hd
  show Steps p.tables e below (T.setTop { method := m, pc := pc, locals := Ls, stack := _ :: rest, locked := none }) _
  jvm_step X.here [X.here.top, hx, hd', hm', hret, hn]
  first | (intro acts; rw [hr _ acts rfl rfl rfl]) | rw [hr _ _ rfl rfl rfl]
  exact Steps.refl _
theorem Goes.retL {z : Int64} (S : Sd p l e R s m args below meth c T h n0 cells slots) (B : Base p s m meth c Z y0 bytes0 maxL0 (some .long)) (hd : decode bytes0 pc = .ok (.lreturn, 1)) (hc : cells ≤ rc) (hs : slots ≤ rs) (hq : Q (some (.long z)) h) :
    Goes p.tables e below (Fine s n0 Q rc rs) T (mkF m pc Ls (.long z :: rest)) := by
  obtain ⟨locs, X, eT, N, -⟩ := S
  obtain ⟨fs, hr, hrun, hended, hW, hsame⟩ := X.leave (v := some (.long z)) (fun h => by rw [B.2.2.2.2.2.2.1] at h; cases h) B.2.2.2.2.2.2.2
  subst eT
  refine ⟨_, _, ?_, hrun, hended, _, _, rfl, ⟨N, hq⟩, ⟨_, rfl⟩, hW, hsame.mono hc hs⟩
  have hm' : T.vm.method? m = some meth := X.method'
  have hx := B.1
  have hret := B.2.2.2.2.2.2.1
  have hd' := B.d hd
  show Steps p.tables e below (T.setTop { method := m, pc := pc, locals := Ls, stack := _ :: rest, locked := none }) _
  jvm_step X.here [X.here.top, hx, hd', hm', hret, narrow]
  first | (intro acts; rw [hr _ acts rfl rfl rfl]) | rw [hr _ _ rfl rfl rfl]
  exact Steps.refl _
theorem Goes.retA {b : Addr} {t : FieldType} (S : Sd p l e R s m args below meth c T h n0 cells slots) (B : Base p s m meth c Z y0 bytes0 maxL0 (some t)) (ht : t.isReference = true) (hd : decode bytes0 pc = .ok (.areturn, 1)) (hc : cells ≤ rc) (hs : slots ≤ rs) (hq : Q (some (.ref b)) h) :
    Goes p.tables e below (Fine s n0 Q rc rs) T (mkF m pc Ls (.ref b :: rest)) := by
  obtain ⟨locs, X, eT, N, -⟩ := S
  obtain ⟨fs, hr, hrun, hended, hW, hsame⟩ := X.leave (v := some (.ref b)) (fun h => by rw [B.2.2.2.2.2.2.1] at h; cases h) B.2.2.2.2.2.2.2
  subst eT
  refine ⟨_, _, ?_, hrun, hended, _, _, rfl, ⟨N, hq⟩, ⟨_, rfl⟩, hW, hsame.mono hc hs⟩
  have hm' : T.vm.method? m = some meth := X.method'
  have hx := B.1
  have hret := B.2.2.2.2.2.2.1
  have hd' := B.d hd
  show Steps p.tables e below (T.setTop { method := m, pc := pc, locals := Ls, stack := _ :: rest, locked := none }) _
  jvm_step X.here [X.here.top, hx, hd', hm', hret, Value.isRef, ht]
  first | (intro acts; rw [hr _ acts rfl rfl rfl]) | rw [hr _ _ rfl rfl rfl]
  exact Steps.refl _
end Ends
/-! fields and objects -/
theorem Goes.getF {O n d : String} {index : Nat} {a : Addr} {v : Value} (S : Sd p l e R s m args below meth c T h n0 cells slots) (B : Base p s m meth c Z y0 bytes0 maxL0 ret0) (w : (Cond.fieldLink y0.cls index O n d).before a0 Z = true) (F : Fld Z h a O n d v) (hd : decode bytes0 pc = .ok (.getfield index, 3))
    (k : ∀ T', Sd p l e R s m args below meth c T' h n0 cells slots → Goes p.tables e below Φ T' (mkF m (pc + 3) Ls (v :: rest))) : Goes p.tables e below Φ T (mkF m pc Ls (.ref a :: rest)) := by
  obtain ⟨locs, X, eT, N, hn⟩ := S
  obtain ⟨T', X', e', stp⟩ := RoadKit.getF X B.1 B.2.1 B.2.2.2.2.1 (host := "") (Or.inl w) Via.refl eT F (g := mkF m pc Ls (.ref a :: rest)) rfl rfl (B.d hd)
  exact Goes.go stp (k T' ⟨locs, X', e', N, hn⟩)
theorem Goes.putF {O n d C : String} {index kk : Nat} {ty : FieldType} {a : Addr} {v v' old : Value} (S : Sd p l e R s m args below meth c T h n0 cells slots) (B : Base p s m meth c Z y0 bytes0 maxL0 ret0) (w : (Cond.fieldLink y0.cls index O n d).before a0 Z = true) (F : Fld Z h a O n d old) (E : Exa Z h a C)
    (L : (Cond.lays C O n d).before a0 Z = true ∨ ((Cond.laysFinal C O n d).before a0 Z = true ∧ y0.cls = O ∧ y0.name = "<init>")) (wi : (Cond.instantiable C kk).before a0 Z = true) (hty : parseFieldDescriptor d = some ty) (hnr : narrow ty v = v') (hf : fits ty v' = true) (ga : n0 ≤ a) (hd : decode bytes0 pc = .ok (.putfield index, 3))
    (k : ∀ T' h', Sd p l e R s m args below meth c T' h' n0 cells slots → Wr h h' a (RoadKit.slotOf Z O n d) v' → Goes p.tables e below Φ T' (mkF m (pc + 3) Ls rest)) : Goes p.tables e below Φ T (mkF m pc Ls (v :: .ref a :: rest)) := by
  obtain ⟨locs, X, eT, N, hn⟩ := S
  obtain ⟨T', h', X', e', W, stp⟩ := RoadKit.putFN X B.1 B.2.1 B.2.2.2.2.1 w Via.refl eT F E (L.imp id fun q => ⟨q.1, q.2.1, B.2.2.2.2.2.1.trans q.2.2⟩) wi hty hnr hf (g := mkF m pc Ls (v :: .ref a :: rest)) rfl rfl (B.d hd)
  exact Goes.go stp (k T' h' ⟨_, X', e', Fr.snoc X' N ga, hn⟩ W)
theorem Goes.newO {C : String} {index nn : Nat} (S : Sd p l e R s m args below meth c T h n0 cells slots) (B : Base p s m meth c Z y0 bytes0 maxL0 ret0) (w : (Cond.classLink y0.cls index C).before a0 Z = true) (wi : (Cond.instantiable C nn).before a0 Z = true) (wz : (Cond.initialized C).before a0 Z = true) (hd : decode bytes0 pc = .ok (.new index, 3)) (hc : cells + 1 ≤ R.cells) (hl : slots + nn ≤ R.slots)
    (k : ∀ T' h' b, Sd p l e R s m args below meth c T' h' n0 (cells + 1) (slots + nn) → Ext h h' → b = h.size → n0 ≤ b → Exa Z h' b C → (∀ {O nm d : String} {ty : FieldType}, Laid Z a0 C O nm d → parseFieldDescriptor d = some ty → Fld Z h' b O nm d (defaultValue ty)) → Goes p.tables e below Φ T' (mkF m (pc + 3) Ls (.ref b :: st))) :
    Goes p.tables e below Φ T (mkF m pc Ls st) := by
  have hle := S.le
  obtain ⟨locs, X, eT, N, hn⟩ := S
  obtain ⟨T', h', X', e', E, A, D, -, stp⟩ := RoadKit.newO X B.1 B.2.1 B.2.2.2.2.1 w wi wz eT (g := mkF m pc Ls st) rfl (B.d hd) hc hl
  exact Goes.go stp (k T' h' h.size ⟨locs, X', e', N, hn⟩ E rfl hle A D)
theorem Goes.initO {index : Nat} {a : Addr} {W : Nat} (S : Sd p l e R s m args below meth c T h n0 cells slots) (B : Base p s m meth c Z y0 bytes0 maxL0 ret0) (w1 : (Cond.methodLink y0.cls index Lib.objectInit).before a0 Z = true) (w2 : (Cond.instanceMethod Lib.objectInit).before a0 Z = true) (w3 : (Cond.code Lib.objectInit ⟨#[0xb1]⟩ 1 none).before a0 Z = true)
    (hd : decode bytes0 pc = .ok (.invokespecial index, 3)) (hsz : Ls.size = maxL0) (hf : 1 ≤ R.frames) (hW : 2 * 0 + (rest.map fun v => v.category).sum ≤ W) (hl : W + 12 ≤ R.locals)
    (k : ∀ T', Sd p l e R s m args below meth c T' h n0 cells slots → Goes p.tables e below Φ T' (mkF m (pc + 3) Ls rest)) : Goes p.tables e below Φ T (mkF m pc Ls (.ref a :: rest)) := by
  obtain ⟨locs, X, eT, N, hn⟩ := S
  obtain ⟨T', X', e', stp⟩ := RoadKit.initO X B.1 B.2.1 B.2.2.2.2.1 w1 w2 w3 eT (g := mkF m pc Ls (.ref a :: rest)) rfl (by rw [B.2.2.2.1]; exact hsz) rfl (B.d hd) hf hW hl
  exact Goes.go stp (k T' ⟨locs, X', e', N, hn⟩)
theorem Goes.ldcI {index : Nat} {v : Int32} (S : Sd p l e R s m args below meth c T h n0 cells slots) (B : Base p s m meth c Z y0 bytes0 maxL0 ret0) (w : (Cond.constant y0.cls index v).before a0 Z = true) (hd : decode bytes0 pc = .ok (.ldc index, 2)) (k : Goes p.tables e below Φ T (mkF m (pc + 2) Ls (.int v :: st))) : Goes p.tables e below Φ T (mkF m pc Ls st) := by
  obtain ⟨locs, X, eT, N, hn⟩ := S
  exact Goes.go (X.ldcInt B.1 B.2.2.2.2.1 (mvT B.2.1 w) (g := mkF m pc Ls st) rfl (B.d hd)) k
theorem Goes.ldcL {index : Nat} {v : Int64} (S : Sd p l e R s m args below meth c T h n0 cells slots) (B : Base p s m meth c Z y0 bytes0 maxL0 ret0) (w : (Cond.constantLong y0.cls index v).before a0 Z = true) (hd : decode bytes0 pc = .ok (.ldc2_w index, 3)) (k : Goes p.tables e below Φ T (mkF m (pc + 3) Ls (.long v :: st))) : Goes p.tables e below Φ T (mkF m pc Ls st) := by
  obtain ⟨locs, X, eT, N, hn⟩ := S
  exact Goes.go (X.ldc2Long B.1 B.2.2.2.2.1 (mvT B.2.1 w) (g := mkF m pc Ls st) rfl (B.d hd)) k
/-! calls -/
section Calls
variable {y : MethodName} {bytes : ByteArray} {maxL : Nat} {ret : Option FieldType} {rm : Room} {index W : Nat} {argsL : List Value} {Q : Option Value → Heap → Prop}
theorem Con.back {as' : Array Value} {len : Nat} (C : Con l Z y bytes maxL ret rm as' h n0 Q) (hn : n0 ≤ h.size) (hZ : Z.Warmed39 s.vm) (wc : (Cond.code y bytes maxL ret).before a0 Z = true) (wz : (Cond.initialized y.cls).before a0 Z = true) (hf : rm.frames + 1 ≤ R.frames) (hl : W + (maxL + 11) + rm.locals ≤ R.locals) :
    Back l R p e below s args y len W (fun A a => a = as' ∧ A.U.heap = h ∧ A.cells + rm.cells ≤ R.cells ∧ A.slots + rm.slots ≤ R.slots)
      (fun A _ v B => ∃ L, (Fr n0 L ∧ Q v B.U.heap) ∧ B.locs = A.locs ++ L ∧ B.cells = A.cells + rm.cells ∧ B.slots = A.slots + rm.slots) :=
  backOf (Q := fun v h L => Fr n0 L ∧ Q v h) (C hn []) hZ wc wz hf hl
theorem Goes.callS (S : Sd p l e R s m args below meth c T h n0 cells slots) (B : Base p s m meth c Z y0 bytes0 maxL0 ret0) (C : Con l Z y bytes maxL ret rm argsL.toArray h n0 Q) (wl : (Cond.methodLink y0.cls index y).before a0 Z = true) (ws : (Cond.static y).before a0 Z = true) (wi : (Cond.initialized y.cls).before a0 Z = true) (wc : (Cond.code y bytes maxL ret).before a0 Z = true)
    (hy : y.cls ≠ "java/lang/invoke/MethodHandle" ∧ y.cls ≠ "java/lang/invoke/VarHandle") (hf : rm.frames + 1 ≤ R.frames) (hlo : W + (maxL + 11) + rm.locals ≤ R.locals) (hc : cells + rm.cells ≤ R.cells) (hs : slots + rm.slots ≤ R.slots) (hsz : Ls.size = maxL0)
    (hlen : ∀ sig, parseMethodDescriptor y.desc = some sig → argsL.length = sig.parameters.length) (hst : st = argsL.reverse ++ rest) (hW : 2 * 0 + (rest.map fun v => v.category).sum ≤ W) (hd : decode bytes0 pc = .ok (.invokestatic index, 3))
    (k : ∀ v T' h', Sd p l e R s m args below meth c T' h' n0 (cells + rm.cells) (slots + rm.slots) → Q v h' → Goes p.tables e below Φ T' (mkF m (pc + 3) Ls (v.toList ++ rest))) : Goes p.tables e below Φ T (mkF m pc Ls st) := by
  have hle := S.le
  obtain ⟨locs, X, eT, N, hn⟩ := S
  subst hst
  obtain ⟨v, _, ⟨T', L', k', n'⟩, -, X', ⟨Lc, ⟨hN, hQ⟩, l1, y1, z1⟩, stp⟩ := Jvm.LawKit.callS X B.1 (y := y) B.2.2.2.2.1 (mvT B.2.1 wl) (mvT B.2.1 ws) (mvT B.2.1 wi) (mvT B.2.1 wc) hy (Con.back (W := W) C hle B.2.1 wc wi hf hlo) (g := mkF m pc Ls (argsL.reverse ++ rest)) rfl (by rw [B.2.2.2.1]; exact hsz) (argsL := argsL) (rest := rest) hlen rfl hW (B.d hd) (fun _ _ => ⟨rfl, eT, hc, hs⟩)
  dsimp only [Pt.U, Pt.locs, Pt.cells, Pt.slots] at X' l1 y1 z1 stp hQ
  subst l1 y1 z1
  exact Goes.go stp (k v T' T'.heap ⟨_, X', rfl, N.app hN, hn⟩ hQ)
theorem Goes.callI {b : Addr} (S : Sd p l e R s m args below meth c T h n0 cells slots) (B : Base p s m meth c Z y0 bytes0 maxL0 ret0) (C : Con l Z y bytes maxL none rm (.ref b :: argsL).toArray h n0 Q) (wl : (Cond.methodLink y0.cls index y).before a0 Z = true) (wim : (Cond.instanceMethod y).before a0 Z = true) (wi : (Cond.initialized y.cls).before a0 Z = true) (wc : (Cond.code y bytes maxL none).before a0 Z = true)
    (hy : y.cls ≠ "java/lang/invoke/MethodHandle" ∧ y.cls ≠ "java/lang/invoke/VarHandle") (hni : y.name = "<init>") (hf : rm.frames + 1 ≤ R.frames) (hlo : W + (maxL + 11) + rm.locals ≤ R.locals) (hc : cells + rm.cells ≤ R.cells) (hs : slots + rm.slots ≤ R.slots) (hsz : Ls.size = maxL0)
    (hlen : ∀ sig, parseMethodDescriptor y.desc = some sig → argsL.length = sig.parameters.length) (hst : st = argsL.reverse ++ .ref b :: rest) (hW : 2 * 0 + (rest.map fun v => v.category).sum ≤ W) (hd : decode bytes0 pc = .ok (.invokespecial index, 3))
    (k : ∀ v T' h', Sd p l e R s m args below meth c T' h' n0 (cells + rm.cells) (slots + rm.slots) → Q v h' → Goes p.tables e below Φ T' (mkF m (pc + 3) Ls (v.toList ++ rest))) : Goes p.tables e below Φ T (mkF m pc Ls st) := by
  have hle := S.le
  obtain ⟨locs, X, eT, N, hn⟩ := S
  subst hst
  obtain ⟨v, _, ⟨T', L', k', n'⟩, -, X', ⟨Lc, ⟨hN, hQ⟩, l1, y1, z1⟩, stp⟩ := X.specialBack B.1 (y := y) hni B.2.2.2.2.1 (mvT B.2.1 wl) (mvT B.2.1 wim) (mvT B.2.1 wc) hy (Con.back (W := W) C hle B.2.1 wc wi hf hlo) (g := mkF m pc Ls (argsL.reverse ++ .ref b :: rest)) rfl (by rw [B.2.2.2.1]; exact hsz) (Steps.refl _) (a := b) (argsL := argsL) (rest := rest) hlen rfl hW (B.d hd) (fun _ _ => ⟨rfl, eT, hc, hs⟩)
  dsimp only [Pt.U, Pt.locs, Pt.cells, Pt.slots] at X' l1 y1 z1 stp hQ
  subst l1 y1 z1
  exact Goes.go (fun t q => stp.trans q) (k v T' T'.heap ⟨_, X', rfl, N.app hN, hn⟩ hQ)
theorem Goes.callV {b : Addr} {K : String} (S : Sd p l e R s m args below meth c T h n0 cells slots) (B : Base p s m meth c Z y0 bytes0 maxL0 ret0) (C : Con l Z y bytes maxL ret rm (.ref b :: argsL).toArray h n0 Q) (E : Exa Z h b K) (wl : (Cond.methodLink y0.cls index y).before a0 Z = true) (wd : (Cond.declares y).before a0 Z = true) (wsel : (Cond.selects K y y).before a0 Z = true) (wim : (Cond.instanceMethod y).before a0 Z = true) (wi : (Cond.initialized y.cls).before a0 Z = true) (wc : (Cond.code y bytes maxL ret).before a0 Z = true)
    (hy : y.cls ≠ "java/lang/invoke/MethodHandle" ∧ y.cls ≠ "java/lang/invoke/VarHandle") (hf : rm.frames + 1 ≤ R.frames) (hlo : W + (maxL + 11) + rm.locals ≤ R.locals) (hc : cells + rm.cells ≤ R.cells) (hs : slots + rm.slots ≤ R.slots) (hsz : Ls.size = maxL0)
    (hlen : ∀ sig, parseMethodDescriptor y.desc = some sig → argsL.length = sig.parameters.length) (hst : st = argsL.reverse ++ .ref b :: rest) (hW : 2 * 0 + (rest.map fun v => v.category).sum ≤ W) (hd : decode bytes0 pc = .ok (.invokevirtual index, 3))
    (k : ∀ v T' h', Sd p l e R s m args below meth c T' h' n0 (cells + rm.cells) (slots + rm.slots) → Q v h' → Goes p.tables e below Φ T' (mkF m (pc + 3) Ls (v.toList ++ rest))) : Goes p.tables e below Φ T (mkF m pc Ls st) := by
  have hle := S.le
  obtain ⟨locs, X, eT, N, hn⟩ := S
  subst hst
  obtain ⟨cq, kq, qa, qb, qc⟩ := isOf B.2.1 eT E
  obtain ⟨v, _, ⟨T', L', k', n'⟩, -, X', ⟨Lc, ⟨hN, hQ⟩, l1, y1, z1⟩, stp⟩ := X.virtualBack B.1 (y := y) (z := y) B.2.2.2.2.1 (mvT B.2.1 wl) (mvT B.2.1 wd) (notFace_of_selects (args := #[]) (mvT B.2.1 wsel)) (mvT B.2.1 wsel) (mvT B.2.1 wim) hy (Con.back (W := W) C hle B.2.1 wc wi hf hlo) qa qc (g := mkF m pc Ls (argsL.reverse ++ .ref b :: rest)) rfl (by rw [B.2.2.2.1]; exact hsz) (Steps.refl _) (argsL := argsL) (rest := rest) hlen rfl hW (B.d hd) (fun _ _ => ⟨rfl, eT, hc, hs⟩)
  dsimp only [Pt.U, Pt.locs, Pt.cells, Pt.slots] at X' l1 y1 z1 stp hQ
  subst l1 y1 z1
  exact Goes.go (fun t q => stp.trans q) (k v T' T'.heap ⟨_, X', rfl, N.app hN, hn⟩ hQ)
theorem Goes.callP {b : Addr} {K : String} (S : Sd p l e R s m args below meth c T h n0 cells slots) (B : Base p s m meth c Z y0 bytes0 maxL0 ret0) (C : Con l Z y bytes maxL ret rm (.ref b :: argsL).toArray h n0 Q) (E : Exa Z h b K) (wl : (Cond.methodLink y0.cls index y).before a0 Z = true) (wp : (Cond.privateMethod y).before a0 Z = true) {kk : Nat} (wk : (Cond.instantiable y.cls kk).before a0 Z = true) (wim : (Cond.instanceMethod y).before a0 Z = true) (wi : (Cond.initialized y.cls).before a0 Z = true) (wc : (Cond.code y bytes maxL ret).before a0 Z = true)
    (hy : y.cls ≠ "java/lang/invoke/MethodHandle" ∧ y.cls ≠ "java/lang/invoke/VarHandle") (hf : rm.frames + 1 ≤ R.frames) (hlo : W + (maxL + 11) + rm.locals ≤ R.locals) (hc : cells + rm.cells ≤ R.cells) (hs : slots + rm.slots ≤ R.slots) (hsz : Ls.size = maxL0)
    (hlen : ∀ sig, parseMethodDescriptor y.desc = some sig → argsL.length = sig.parameters.length) (hst : st = argsL.reverse ++ .ref b :: rest) (hW : 2 * 0 + (rest.map fun v => v.category).sum ≤ W) (hd : decode bytes0 pc = .ok (.invokevirtual index, 3))
    (k : ∀ v T' h', Sd p l e R s m args below meth c T' h' n0 (cells + rm.cells) (slots + rm.slots) → Q v h' → Goes p.tables e below Φ T' (mkF m (pc + 3) Ls (v.toList ++ rest))) : Goes p.tables e below Φ T (mkF m pc Ls st) := by
  have hle := S.le
  obtain ⟨locs, X, eT, N, hn⟩ := S
  subst hst
  obtain ⟨cq, q1, q2⟩ := E.cell
  have hpr : s.PrivateAt y := Cond.privateMethod_at (mvP B.2.1 wp (args := #[]))
  have wsel : (Cond.selects y.cls y y).before args s = true := by
    obtain ⟨ci, ki, i1, i2, i3, i4, -⟩ := Cond.instantiable_spec (mvT B.2.1 wk (args := args))
    exact selects_self_of_private i1 i2 (Bool.or_eq_false_iff.mp i4).1 hpr (mvT B.2.1 wim) hy
  obtain ⟨v, _, ⟨T', L', k', n'⟩, -, X', ⟨Lc, ⟨hN, hQ⟩, l1, y1, z1⟩, stp⟩ := X.privateBack B.1 (y := y) B.2.2.2.2.1 (mvT B.2.1 wl) (mvT B.2.1 wim) wsel hpr (mvT B.2.1 wc) hy (Con.back (W := W) C hle B.2.1 wc wi hf hlo) (g := mkF m pc Ls (argsL.reverse ++ .ref b :: rest)) rfl (by rw [B.2.2.2.1]; exact hsz) (Steps.refl _) (a := b) (by rw [eT]; exact q1) q2 (argsL := argsL) (rest := rest) hlen rfl hW (B.d hd) (fun _ _ => ⟨rfl, eT, hc, hs⟩)
  dsimp only [Pt.U, Pt.locs, Pt.cells, Pt.slots] at X' l1 y1 z1 stp hQ
  subst l1 y1 z1
  exact Goes.go (fun t q => stp.trans q) (k v T' T'.heap ⟨_, X', rfl, N.app hN, hn⟩ hQ)
end Calls
/-! arrays: what lies at each place, as a function -/
def Ary (Z : State) (h : Heap) (a : Addr) (ty : FieldType) (n : Nat) (f : Nat → Value) : Prop := ∃ c : Cell, Arr Z h a c ty ∧ c.slots.size = n ∧ n < 2 ^ 31 ∧ ∀ i, i < n → c.slots[i]? = some (f i)
def upd {α : Type} (f : Nat → α) (i : Nat) (v : α) : Nat → α := fun k => if k = i then v else f k
theorem upd_int (g : Nat → Int32) (k : Nat) (x : Int32) : upd (fun i => Value.int (g i)) k (.int x) = fun i => .int (upd g k x i) := by
  funext i
  simp only [upd]
  split <;> rfl
theorem upd_long (g : Nat → Int64) (k : Nat) (x : Int64) : upd (fun i => Value.long (g i)) k (.long x) = fun i => .long (upd g k x i) := by
  funext i
  simp only [upd]
  split <;> rfl
section Arrays
variable {a b : Addr} {ty : FieldType} {n : Nat} {f : Nat → Value} {h' : Heap} {j : Int32} {v : Value} {sl : Nat} {ws : List Addr}
theorem Ary.lt (A : Ary Z h a ty n f) : a < h.size := by obtain ⟨c, A, -⟩ := A; exact A.lt
theorem Ary.ext (A : Ary Z h a ty n f) (E : Ext h h') : Ary Z h' a ty n f := by obtain ⟨c, A, r⟩ := A; exact ⟨c, A.ext E, r⟩
theorem Ary.other (A : Ary Z h b ty n f) (W : Wr h h' a sl v) (q : b ≠ a) : Ary Z h' b ty n f := by obtain ⟨c, A, r⟩ := A; exact ⟨c, A.other W q, r⟩
theorem Ary.keep (A : Ary Z h a ty n f) (K : Keep h h' ws) (q : a ∉ ws) : Ary Z h' a ty n f := by obtain ⟨c, A, r⟩ := A; exact ⟨c, ⟨K.2.1 a c A.1 q, A.2⟩, r⟩
theorem Ary.cast {g : Nat → Value} (A : Ary Z h a ty n f) (q : ∀ i, i < n → f i = g i) : Ary Z h a ty n g := by obtain ⟨c, A, r1, r2, r3⟩ := A; exact ⟨c, A, r1, r2, fun i hi => by rw [r3 i hi, q i hi]⟩
theorem Ary.new {z : Int32} {k : ClassId} (A : Arr Z h a (newA k ty z) ty) (q : ¬ z < 0) : Ary Z h a ty z.toNatClampNeg (fun _ => defaultValue ty) :=
  ⟨_, A, sz_new _ _ _, (back32 q).2, fun i hi => by simp [newA, hi]⟩
theorem Ary.set {i : Nat} (A : Ary Z h a ty n f) (W : Wr h h' a i v) (hi : i < n) : Ary Z h' a ty n (upd f i v) := by
  obtain ⟨c, A, r1, r2, r3⟩ := A
  refine ⟨_, A.same W, by rw [sz_set]; exact r1, r2, fun k hk => ?_⟩
  by_cases e : k = i
  · subst e
    simp [upd, Cell.setSlot, r1, hi]
  · have e' : i ≠ k := fun q => e q.symm
    simp only [upd, if_neg e, Cell.setSlot]
    rw [Array.getElem?_setIfInBounds_ne e']
    exact r3 k hk
theorem Goes.newP {aty : ArrayType} {z : Int32} {cap : Nat} (S : Sd p l e R s m args below meth c T h n0 cells slots) (B : Base p s m meth c Z y0 bytes0 maxL0 ret0) (w : (Cond.arrayClass (newarray.typeOf aty)).before a0 Z = true) (hd : decode bytes0 pc = .ok (.newarray aty, 2)) (hz : ¬ z < 0) (hcap : z.toNatClampNeg ≤ cap) (hb : cap * 8 ≤ 536870912) (hc : cells + 1 ≤ R.cells) (hl : slots + cap ≤ R.slots)
    (k : ∀ T' h' b, Sd p l e R s m args below meth c T' h' n0 (cells + 1) (slots + cap) → Ext h h' → b = h.size → n0 ≤ b → Ary Z h' b (newarray.typeOf aty) z.toNatClampNeg (fun _ => defaultValue (newarray.typeOf aty)) → Goes p.tables e below Φ T' (mkF m (pc + 2) Ls (.ref b :: rest))) :
    Goes p.tables e below Φ T (mkF m pc Ls (.int z :: rest)) := by
  have hle := S.le
  obtain ⟨locs, X, eT, N, hn⟩ := S
  obtain ⟨T', h', k', X', e', E, A, stp⟩ := RoadKit.newP X B.1 B.2.1 w eT (g := mkF m pc Ls (.int z :: rest)) rfl (B.d hd) rfl hz hcap hb hc hl
  exact Goes.go stp (k T' h' h.size ⟨locs, X', e', N, hn⟩ E rfl hle (Ary.new A hz))
theorem Goes.iaload (S : Sd p l e R s m args below meth c T h n0 cells slots) (B : Base p s m meth c Z y0 bytes0 maxL0 ret0) (A : Ary Z h a .int n f) (q0 : ¬ j < 0) (q1 : j.toNatClampNeg < n) (hd : decode bytes0 pc = .ok (.iaload, 1)) (hv : f j.toNatClampNeg = v) (k : Goes p.tables e below Φ T (mkF m (pc + 1) Ls (v :: rest))) : Goes p.tables e below Φ T (mkF m pc Ls (.int j :: .ref a :: rest)) := by
  obtain ⟨locs, X, eT, N, hn⟩ := S
  obtain ⟨cl, A, r1, r2, r3⟩ := A
  exact Goes.go (X.iaload B.1 (j := j) (v := v) (by rw [eT]; exact A.1) (State.isArrayOf_alike B.2.1.alike A.2.1) A.2.2 (by rw [r1]; exact fun z => z.elim q0 (Nat.not_le.mpr q1)) (by rw [r3 _ q1, hv]) (g := mkF m pc Ls (.int j :: .ref a :: rest)) rfl rfl (B.d hd)) k
theorem Goes.laload (S : Sd p l e R s m args below meth c T h n0 cells slots) (B : Base p s m meth c Z y0 bytes0 maxL0 ret0) (A : Ary Z h a .long n f) (q0 : ¬ j < 0) (q1 : j.toNatClampNeg < n) (hd : decode bytes0 pc = .ok (.laload, 1)) (hv : f j.toNatClampNeg = v) (k : Goes p.tables e below Φ T (mkF m (pc + 1) Ls (v :: rest))) : Goes p.tables e below Φ T (mkF m pc Ls (.int j :: .ref a :: rest)) := by
  obtain ⟨locs, X, eT, N, hn⟩ := S
  obtain ⟨cl, A, r1, r2, r3⟩ := A
  exact Goes.go (X.laload B.1 (j := j) (v := v) (by rw [eT]; exact A.1) (State.isArrayOf_alike B.2.1.alike A.2.1) A.2.2 (by rw [r1]; exact fun z => z.elim q0 (Nat.not_le.mpr q1)) (by rw [r3 _ q1, hv]) (g := mkF m pc Ls (.int j :: .ref a :: rest)) rfl rfl (B.d hd)) k
theorem Goes.baload (S : Sd p l e R s m args below meth c T h n0 cells slots) (B : Base p s m meth c Z y0 bytes0 maxL0 ret0) (A : Ary Z h a .byte n f) (q0 : ¬ j < 0) (q1 : j.toNatClampNeg < n) (hd : decode bytes0 pc = .ok (.baload, 1)) (hv : f j.toNatClampNeg = v) (k : Goes p.tables e below Φ T (mkF m (pc + 1) Ls (v :: rest))) : Goes p.tables e below Φ T (mkF m pc Ls (.int j :: .ref a :: rest)) := by
  obtain ⟨locs, X, eT, N, hn⟩ := S
  obtain ⟨cl, A, r1, r2, r3⟩ := A
  exact Goes.go (X.baloadBytes B.1 (j := j) (v := v) (by rw [eT]; exact A.1) (State.isArrayOf_alike B.2.1.alike A.2.1) A.2.2 (by rw [r1]; exact fun z => z.elim q0 (Nat.not_le.mpr q1)) (by rw [r3 _ q1, hv]) (g := mkF m pc Ls (.int j :: .ref a :: rest)) rfl rfl (B.d hd)) k
theorem Goes.zaload (S : Sd p l e R s m args below meth c T h n0 cells slots) (B : Base p s m meth c Z y0 bytes0 maxL0 ret0) (A : Ary Z h a .boolean n f) (q0 : ¬ j < 0) (q1 : j.toNatClampNeg < n) (hd : decode bytes0 pc = .ok (.baload, 1)) (hv : f j.toNatClampNeg = v) (k : Goes p.tables e below Φ T (mkF m (pc + 1) Ls (v :: rest))) : Goes p.tables e below Φ T (mkF m pc Ls (.int j :: .ref a :: rest)) := by
  obtain ⟨locs, X, eT, N, hn⟩ := S
  obtain ⟨cl, A, r1, r2, r3⟩ := A
  exact Goes.go (X.baloadBooleans B.1 (j := j) (v := v) (by rw [eT]; exact A.1) (State.isArrayOf_alike B.2.1.alike A.2.1) A.2.2 (by rw [r1]; exact fun z => z.elim q0 (Nat.not_le.mpr q1)) (by rw [r3 _ q1, hv]) (g := mkF m pc Ls (.int j :: .ref a :: rest)) rfl rfl (B.d hd)) k
theorem Goes.alen (S : Sd p l e R s m args below meth c T h n0 cells slots) (B : Base p s m meth c Z y0 bytes0 maxL0 ret0) (A : Ary Z h a ty n f) {z : Int32} (hz : n.toInt32 = z) (hd : decode bytes0 pc = .ok (.arraylength, 1)) (k : Goes p.tables e below Φ T (mkF m (pc + 1) Ls (.int z :: rest))) : Goes p.tables e below Φ T (mkF m pc Ls (.ref a :: rest)) := by
  obtain ⟨locs, X, eT, N, hn⟩ := S
  obtain ⟨cl, A, r1, r2, r3⟩ := A
  subst r1 hz
  exact Goes.go (X.arraylength B.1 (by rw [eT]; exact A.1) (State.isArrayOf_alike B.2.1.alike A.2.1) (g := mkF m pc Ls (.ref a :: rest)) rfl rfl (B.d hd)) k
theorem Goes.iastore {x : Int32} (S : Sd p l e R s m args below meth c T h n0 cells slots) (B : Base p s m meth c Z y0 bytes0 maxL0 ret0) (A : Ary Z h a .int n f) (q0 : ¬ j < 0) (q1 : j.toNatClampNeg < n) (ga : n0 ≤ a) (hd : decode bytes0 pc = .ok (.iastore, 1))
    (k : ∀ T' h', Sd p l e R s m args below meth c T' h' n0 cells slots → Wr h h' a j.toNatClampNeg (.int x) → Ary Z h' a .int n (upd f j.toNatClampNeg (.int x)) → Goes p.tables e below Φ T' (mkF m (pc + 1) Ls rest)) : Goes p.tables e below Φ T (mkF m pc Ls (.int x :: .int j :: .ref a :: rest)) := by
  obtain ⟨locs, X, eT, N, hn⟩ := S
  have A' := A
  obtain ⟨cl, A, r1, r2, r3⟩ := A
  obtain ⟨T', h', X', e', W, stp⟩ := RoadKit.stI X B.1 B.2.1 eT A (j := j) (by rw [r1]; exact fun z => z.elim q0 (Nat.not_le.mpr q1)) (g := mkF m pc Ls (.int x :: .int j :: .ref a :: rest)) rfl rfl (B.d hd)
  exact Goes.go stp (k T' h' ⟨_, X', e', Fr.snoc X' N ga, hn⟩ W (A'.set W q1))
theorem Goes.lastore {x : Int64} (S : Sd p l e R s m args below meth c T h n0 cells slots) (B : Base p s m meth c Z y0 bytes0 maxL0 ret0) (A : Ary Z h a .long n f) (q0 : ¬ j < 0) (q1 : j.toNatClampNeg < n) (ga : n0 ≤ a) (hd : decode bytes0 pc = .ok (.lastore, 1))
    (k : ∀ T' h', Sd p l e R s m args below meth c T' h' n0 cells slots → Wr h h' a j.toNatClampNeg (.long x) → Ary Z h' a .long n (upd f j.toNatClampNeg (.long x)) → Goes p.tables e below Φ T' (mkF m (pc + 1) Ls rest)) : Goes p.tables e below Φ T (mkF m pc Ls (.long x :: .int j :: .ref a :: rest)) := by
  obtain ⟨locs, X, eT, N, hn⟩ := S
  have A' := A
  obtain ⟨cl, A, r1, r2, r3⟩ := A
  obtain ⟨T', h', X', e', W, stp⟩ := RoadKit.stJ X B.1 B.2.1 eT A (j := j) (by rw [r1]; exact fun z => z.elim q0 (Nat.not_le.mpr q1)) (g := mkF m pc Ls (.long x :: .int j :: .ref a :: rest)) rfl rfl (B.d hd)
  exact Goes.go stp (k T' h' ⟨_, X', e', Fr.snoc X' N ga, hn⟩ W (A'.set W q1))
theorem Goes.bastore {x : Int32} (S : Sd p l e R s m args below meth c T h n0 cells slots) (B : Base p s m meth c Z y0 bytes0 maxL0 ret0) (A : Ary Z h a .byte n f) (q0 : ¬ j < 0) (q1 : j.toNatClampNeg < n) (ga : n0 ≤ a) (hd : decode bytes0 pc = .ok (.bastore, 1))
    (k : ∀ T' h', Sd p l e R s m args below meth c T' h' n0 cells slots → Wr h h' a j.toNatClampNeg (.int (nar .byte x)) → Ary Z h' a .byte n (upd f j.toNatClampNeg (.int (nar .byte x))) → Goes p.tables e below Φ T' (mkF m (pc + 1) Ls rest)) : Goes p.tables e below Φ T (mkF m pc Ls (.int x :: .int j :: .ref a :: rest)) := by
  obtain ⟨locs, X, eT, N, hn⟩ := S
  have A' := A
  obtain ⟨cl, A, r1, r2, r3⟩ := A
  obtain ⟨T', h', X', e', W, stp⟩ := RoadKit.stB X B.1 B.2.1 eT A (j := j) (by rw [r1]; exact fun z => z.elim q0 (Nat.not_le.mpr q1)) (g := mkF m pc Ls (.int x :: .int j :: .ref a :: rest)) rfl rfl (B.d hd)
  exact Goes.go stp (k T' h' ⟨_, X', e', Fr.snoc X' N ga, hn⟩ W (A'.set W q1))
theorem Goes.zastore {x : Int32} (S : Sd p l e R s m args below meth c T h n0 cells slots) (B : Base p s m meth c Z y0 bytes0 maxL0 ret0) (A : Ary Z h a .boolean n f) (q0 : ¬ j < 0) (q1 : j.toNatClampNeg < n) (ga : n0 ≤ a) (hd : decode bytes0 pc = .ok (.bastore, 1))
    (k : ∀ T' h', Sd p l e R s m args below meth c T' h' n0 cells slots → Wr h h' a j.toNatClampNeg (.int (nar .boolean x)) → Ary Z h' a .boolean n (upd f j.toNatClampNeg (.int (nar .boolean x))) → Goes p.tables e below Φ T' (mkF m (pc + 1) Ls rest)) : Goes p.tables e below Φ T (mkF m pc Ls (.int x :: .int j :: .ref a :: rest)) := by
  obtain ⟨locs, X, eT, N, hn⟩ := S
  have A' := A
  obtain ⟨cl, A, r1, r2, r3⟩ := A
  obtain ⟨T', h', X', e', W, stp⟩ := RoadKit.stZ X B.1 B.2.1 eT A (j := j) (by rw [r1]; exact fun z => z.elim q0 (Nat.not_le.mpr q1)) (g := mkF m pc Ls (.int x :: .int j :: .ref a :: rest)) rfl rfl (B.d hd)
  exact Goes.go stp (k T' h' ⟨_, X', e', Fr.snoc X' N ga, hn⟩ W (A'.set W q1))
end Arrays
end Lay
end Jvm.OwnKit
namespace Jvm.Pilot.@@N@@
open Jvm Jvm.ClassFile Sem Op Lib Jvm.Free Jvm.Stand Jvm.LawKit Jvm.RoadKit Jvm.OwnKit Bundle Jvm.Pilot.@@N@@.Jvm.D
theorem w0 {Z : State} {a0 : Array Value} (hw : ∀ d ∈ tables_1, d.before a0 Z = true) : ((Jvm.Cond.classLink "com/example/cormorant/cormorant/sim/ChannelAwaitsNoticePinLaw" (15 : Nat) "com/example/cormorant/cormorant/sim/Channel") : Jvm.Cond).before a0 Z = true := hw _ (List.mem_of_getElem? (i := 0) rfl)
theorem w1 {Z : State} {a0 : Array Value} (hw : ∀ d ∈ tables_1, d.before a0 Z = true) : ((Jvm.Cond.instantiable "com/example/cormorant/cormorant/sim/Channel" (4 : Nat)) : Jvm.Cond).before a0 Z = true := hw _ (List.mem_of_getElem? (i := 1) rfl)
theorem w2 {Z : State} {a0 : Array Value} (hw : ∀ d ∈ tables_1, d.before a0 Z = true) : ((Jvm.Cond.initialized "com/example/cormorant/cormorant/sim/Channel") : Jvm.Cond).before a0 Z = true := hw _ (List.mem_of_getElem? (i := 2) rfl)
theorem w3 {Z : State} {a0 : Array Value} (hw : ∀ d ∈ tables_1, d.before a0 Z = true) : ((Jvm.Cond.methodLink "com/example/cormorant/cormorant/sim/ChannelAwaitsNoticePinLaw" (17 : Nat) ({ cls := "com/example/cormorant/cormorant/sim/Channel", name := "<init>", desc := "()V" } : Jvm.MethodName)) : Jvm.Cond).before a0 Z = true := hw _ (List.mem_of_getElem? (i := 3) rfl)
theorem w4 {Z : State} {a0 : Array Value} (hw : ∀ d ∈ tables_1, d.before a0 Z = true) : ((Jvm.Cond.instanceMethod ({ cls := "com/example/cormorant/cormorant/sim/Channel", name := "<init>", desc := "()V" } : Jvm.MethodName)) : Jvm.Cond).before a0 Z = true := hw _ (List.mem_of_getElem? (i := 4) rfl)
theorem w5 {Z : State} {a0 : Array Value} (hw : ∀ d ∈ tables_1, d.before a0 Z = true) : ((Jvm.Cond.code ({ cls := "com/example/cormorant/cormorant/sim/Channel", name := "<init>", desc := "()V" } : Jvm.MethodName) prog_70_method_1_code (1 : Nat) (Option.none : Option Jvm.ClassFile.FieldType)) : Jvm.Cond).before a0 Z = true := hw _ (List.mem_of_getElem? (i := 5) rfl)
theorem w6 {Z : State} {a0 : Array Value} (hw : ∀ d ∈ tables_1, d.before a0 Z = true) : ((Jvm.Cond.methodLink "com/example/cormorant/cormorant/sim/Channel" (1 : Nat) ({ cls := "java/lang/Object", name := "<init>", desc := "()V" } : Jvm.MethodName)) : Jvm.Cond).before a0 Z = true := hw _ (List.mem_of_getElem? (i := 6) rfl)
theorem w7 {Z : State} {a0 : Array Value} (hw : ∀ d ∈ tables_1, d.before a0 Z = true) : ((Jvm.Cond.instanceMethod ({ cls := "java/lang/Object", name := "<init>", desc := "()V" } : Jvm.MethodName)) : Jvm.Cond).before a0 Z = true := hw _ (List.mem_of_getElem? (i := 7) rfl)
theorem w8 {Z : State} {a0 : Array Value} (hw : ∀ d ∈ tables_1, d.before a0 Z = true) : ((Jvm.Cond.code ({ cls := "java/lang/Object", name := "<init>", desc := "()V" } : Jvm.MethodName) object_method_1_code (1 : Nat) (Option.none : Option Jvm.ClassFile.FieldType)) : Jvm.Cond).before a0 Z = true := hw _ (List.mem_of_getElem? (i := 8) rfl)
theorem w9 {Z : State} {a0 : Array Value} (hw : ∀ d ∈ tables_1, d.before a0 Z = true) : ((Jvm.Cond.constantLong "com/example/cormorant/cormorant/sim/Channel" (7 : Nat) (-1 : Int64)) : Jvm.Cond).before a0 Z = true := hw _ (List.mem_of_getElem? (i := 9) rfl)
theorem w10 {Z : State} {a0 : Array Value} (hw : ∀ d ∈ tables_1, d.before a0 Z = true) : ((Jvm.Cond.fieldLink "com/example/cormorant/cormorant/sim/Channel" (9 : Nat) "com/example/cormorant/cormorant/sim/Channel" "lastNotice" "J") : Jvm.Cond).before a0 Z = true := hw _ (List.mem_of_getElem? (i := 10) rfl)
theorem w11 {Z : State} {a0 : Array Value} (hw : ∀ d ∈ tables_1, d.before a0 Z = true) : ((Jvm.Cond.lays "com/example/cormorant/cormorant/sim/Channel" "com/example/cormorant/cormorant/sim/Channel" "lastNotice" "J") : Jvm.Cond).before a0 Z = true := hw _ (List.mem_of_getElem? (i := 11) rfl)
theorem w12 {Z : State} {a0 : Array Value} (hw : ∀ d ∈ tables_1, d.before a0 Z = true) : ((Jvm.Cond.methodLink "com/example/cormorant/cormorant/sim/ChannelAwaitsNoticePinLaw" (18 : Nat) ({ cls := "com/example/cormorant/cormorant/sim/Channel", name := "notice", desc := "(J)J" } : Jvm.MethodName)) : Jvm.Cond).before a0 Z = true := hw _ (List.mem_of_getElem? (i := 12) rfl)
theorem w13 {Z : State} {a0 : Array Value} (hw : ∀ d ∈ tables_1, d.before a0 Z = true) : ((Jvm.Cond.declares ({ cls := "com/example/cormorant/cormorant/sim/Channel", name := "notice", desc := "(J)J" } : Jvm.MethodName)) : Jvm.Cond).before a0 Z = true := hw _ (List.mem_of_getElem? (i := 13) rfl)
theorem w14 {Z : State} {a0 : Array Value} (hw : ∀ d ∈ tables_1, d.before a0 Z = true) : ((Jvm.Cond.instanceMethod ({ cls := "com/example/cormorant/cormorant/sim/Channel", name := "notice", desc := "(J)J" } : Jvm.MethodName)) : Jvm.Cond).before a0 Z = true := hw _ (List.mem_of_getElem? (i := 14) rfl)
theorem w15 {Z : State} {a0 : Array Value} (hw : ∀ d ∈ tables_1, d.before a0 Z = true) : ((Jvm.Cond.selects "com/example/cormorant/cormorant/sim/Channel" ({ cls := "com/example/cormorant/cormorant/sim/Channel", name := "notice", desc := "(J)J" } : Jvm.MethodName) ({ cls := "com/example/cormorant/cormorant/sim/Channel", name := "notice", desc := "(J)J" } : Jvm.MethodName)) : Jvm.Cond).before a0 Z = true := hw _ (List.mem_of_getElem? (i := 15) rfl)
theorem w16 {Z : State} {a0 : Array Value} (hw : ∀ d ∈ tables_1, d.before a0 Z = true) : ((Jvm.Cond.code ({ cls := "com/example/cormorant/cormorant/sim/Channel", name := "notice", desc := "(J)J" } : Jvm.MethodName) prog_70_method_8_code (3 : Nat) (Option.some Jvm.ClassFile.FieldType.long)) : Jvm.Cond).before a0 Z = true := hw _ (List.mem_of_getElem? (i := 16) rfl)
theorem w17 {Z : State} {a0 : Array Value} (hw : ∀ d ∈ tables_1, d.before a0 Z = true) : ((Jvm.Cond.methodLink "com/example/cormorant/cormorant/sim/Channel" (25 : Nat) ({ cls := "java/lang/Math", name := "max", desc := "(JJ)J" } : Jvm.MethodName)) : Jvm.Cond).before a0 Z = true := hw _ (List.mem_of_getElem? (i := 17) rfl)
theorem w18 {Z : State} {a0 : Array Value} (hw : ∀ d ∈ tables_1, d.before a0 Z = true) : ((Jvm.Cond.static ({ cls := "java/lang/Math", name := "max", desc := "(JJ)J" } : Jvm.MethodName)) : Jvm.Cond).before a0 Z = true := hw _ (List.mem_of_getElem? (i := 18) rfl)
theorem w19 {Z : State} {a0 : Array Value} (hw : ∀ d ∈ tables_1, d.before a0 Z = true) : ((Jvm.Cond.initialized "java/lang/Math") : Jvm.Cond).before a0 Z = true := hw _ (List.mem_of_getElem? (i := 19) rfl)
theorem w20 {Z : State} {a0 : Array Value} (hw : ∀ d ∈ tables_1, d.before a0 Z = true) : ((Jvm.Cond.code ({ cls := "java/lang/Math", name := "max", desc := "(JJ)J" } : Jvm.MethodName) jdk_29_method_66_code (4 : Nat) (Option.some Jvm.ClassFile.FieldType.long)) : Jvm.Cond).before a0 Z = true := hw _ (List.mem_of_getElem? (i := 20) rfl)
theorem w21 {Z : State} {a0 : Array Value} (hw : ∀ d ∈ tables_1, d.before a0 Z = true) : ((Jvm.Cond.methodLink "com/example/cormorant/cormorant/sim/ChannelAwaitsNoticePinLaw" (22 : Nat) ({ cls := "com/example/cormorant/cormorant/sim/ChannelAwaitsNoticePinLaw", name := "latest", desc := "(IJJ)J" } : Jvm.MethodName)) : Jvm.Cond).before a0 Z = true := hw _ (List.mem_of_getElem? (i := 21) rfl)
theorem w22 {Z : State} {a0 : Array Value} (hw : ∀ d ∈ tables_1, d.before a0 Z = true) : ((Jvm.Cond.static ({ cls := "com/example/cormorant/cormorant/sim/ChannelAwaitsNoticePinLaw", name := "latest", desc := "(IJJ)J" } : Jvm.MethodName)) : Jvm.Cond).before a0 Z = true := hw _ (List.mem_of_getElem? (i := 22) rfl)
theorem w23 {Z : State} {a0 : Array Value} (hw : ∀ d ∈ tables_1, d.before a0 Z = true) : ((Jvm.Cond.initialized "com/example/cormorant/cormorant/sim/ChannelAwaitsNoticePinLaw") : Jvm.Cond).before a0 Z = true := hw _ (List.mem_of_getElem? (i := 23) rfl)
theorem w24 {Z : State} {a0 : Array Value} (hw : ∀ d ∈ tables_1, d.before a0 Z = true) : ((Jvm.Cond.code ({ cls := "com/example/cormorant/cormorant/sim/ChannelAwaitsNoticePinLaw", name := "latest", desc := "(IJJ)J" } : Jvm.MethodName) method_2_code (7 : Nat) (Option.some Jvm.ClassFile.FieldType.long)) : Jvm.Cond).before a0 Z = true := hw _ (List.mem_of_getElem? (i := 24) rfl)
theorem w25 {Z : State} {a0 : Array Value} (hw : ∀ d ∈ tables_1, d.before a0 Z = true) : ((Jvm.Cond.constantLong "com/example/cormorant/cormorant/sim/ChannelAwaitsNoticePinLaw" (7 : Nat) (-1 : Int64)) : Jvm.Cond).before a0 Z = true := hw _ (List.mem_of_getElem? (i := 25) rfl)
theorem w26 {Z : State} {a0 : Array Value} (hw : ∀ d ∈ tables_1, d.before a0 Z = true) : ((Jvm.Cond.methodLink "com/example/cormorant/cormorant/sim/ChannelAwaitsNoticePinLaw" (9 : Nat) ({ cls := "java/lang/Math", name := "max", desc := "(JJ)J" } : Jvm.MethodName)) : Jvm.Cond).before a0 Z = true := hw _ (List.mem_of_getElem? (i := 26) rfl)
theorem w27 {Z : State} {a0 : Array Value} (hw : ∀ d ∈ tables_1, d.before a0 Z = true) : ((Jvm.Cond.methodLink "com/example/cormorant/cormorant/sim/ChannelAwaitsNoticePinLaw" (28 : Nat) ({ cls := "com/example/cormorant/cormorant/sim/Channel", name := "awaitsNotice", desc := "(J)Z" } : Jvm.MethodName)) : Jvm.Cond).before a0 Z = true := hw _ (List.mem_of_getElem? (i := 27) rfl)
theorem w28 {Z : State} {a0 : Array Value} (hw : ∀ d ∈ tables_1, d.before a0 Z = true) : ((Jvm.Cond.declares ({ cls := "com/example/cormorant/cormorant/sim/Channel", name := "awaitsNotice", desc := "(J)Z" } : Jvm.MethodName)) : Jvm.Cond).before a0 Z = true := hw _ (List.mem_of_getElem? (i := 28) rfl)
theorem w29 {Z : State} {a0 : Array Value} (hw : ∀ d ∈ tables_1, d.before a0 Z = true) : ((Jvm.Cond.instanceMethod ({ cls := "com/example/cormorant/cormorant/sim/Channel", name := "awaitsNotice", desc := "(J)Z" } : Jvm.MethodName)) : Jvm.Cond).before a0 Z = true := hw _ (List.mem_of_getElem? (i := 29) rfl)
theorem w30 {Z : State} {a0 : Array Value} (hw : ∀ d ∈ tables_1, d.before a0 Z = true) : ((Jvm.Cond.selects "com/example/cormorant/cormorant/sim/Channel" ({ cls := "com/example/cormorant/cormorant/sim/Channel", name := "awaitsNotice", desc := "(J)Z" } : Jvm.MethodName) ({ cls := "com/example/cormorant/cormorant/sim/Channel", name := "awaitsNotice", desc := "(J)Z" } : Jvm.MethodName)) : Jvm.Cond).before a0 Z = true := hw _ (List.mem_of_getElem? (i := 30) rfl)
theorem w31 {Z : State} {a0 : Array Value} (hw : ∀ d ∈ tables_1, d.before a0 Z = true) : ((Jvm.Cond.code ({ cls := "com/example/cormorant/cormorant/sim/Channel", name := "awaitsNotice", desc := "(J)Z" } : Jvm.MethodName) prog_70_method_9_code (3 : Nat) (Option.some Jvm.ClassFile.FieldType.boolean)) : Jvm.Cond).before a0 Z = true := hw _ (List.mem_of_getElem? (i := 31) rfl)
theorem w32 {Z : State} {a0 : Array Value} (hw : ∀ d ∈ tables_1, d.before a0 Z = true) : ((Jvm.Cond.constantLong "com/example/cormorant/cormorant/sim/ChannelAwaitsNoticePinLaw" (34 : Nat) (9223372036854775807 : Int64)) : Jvm.Cond).before a0 Z = true := hw _ (List.mem_of_getElem? (i := 32) rfl)
theorem d_jdk_29_method_66_0 : decode jdk_29_method_66_code 0 = .ok (.lload_n 0, 1) := by decide +kernel
theorem d_jdk_29_method_66_1 : decode jdk_29_method_66_code 1 = .ok (.lload_n 2, 1) := by decide +kernel
theorem d_jdk_29_method_66_2 : decode jdk_29_method_66_code 2 = .ok (.lcmp, 1) := by decide +kernel
theorem d_jdk_29_method_66_3 : decode jdk_29_method_66_code 3 = .ok (.ifCond .lt 7, 3) := by decide +kernel
theorem d_jdk_29_method_66_10 : decode jdk_29_method_66_code 10 = .ok (.lload_n 2, 1) := by decide +kernel
theorem d_jdk_29_method_66_11 : decode jdk_29_method_66_code 11 = .ok (.lreturn, 1) := by decide +kernel
theorem d_jdk_29_method_66_6 : decode jdk_29_method_66_code 6 = .ok (.lload_n 0, 1) := by decide +kernel
theorem d_jdk_29_method_66_7 : decode jdk_29_method_66_code 7 = .ok (.goto 4, 3) := by decide +kernel
theorem d_prog_70_method_1_0 : decode prog_70_method_1_code 0 = .ok (.aload_n 0, 1) := by decide +kernel
theorem d_prog_70_method_1_1 : decode prog_70_method_1_code 1 = .ok (.invokespecial 1, 3) := by decide +kernel
theorem d_prog_70_method_1_4 : decode prog_70_method_1_code 4 = .ok (.aload_n 0, 1) := by decide +kernel
theorem d_prog_70_method_1_5 : decode prog_70_method_1_code 5 = .ok (.ldc2_w 7, 3) := by decide +kernel
theorem d_prog_70_method_1_8 : decode prog_70_method_1_code 8 = .ok (.putfield 9, 3) := by decide +kernel
theorem d_prog_70_method_1_11 : decode prog_70_method_1_code 11 = .ok (.return_, 1) := by decide +kernel
theorem d_prog_70_method_8_0 : decode prog_70_method_8_code 0 = .ok (.aload_n 0, 1) := by decide +kernel
theorem d_prog_70_method_8_1 : decode prog_70_method_8_code 1 = .ok (.aload_n 0, 1) := by decide +kernel
theorem d_prog_70_method_8_2 : decode prog_70_method_8_code 2 = .ok (.getfield 9, 3) := by decide +kernel
theorem d_prog_70_method_8_5 : decode prog_70_method_8_code 5 = .ok (.lload_n 1, 1) := by decide +kernel
theorem d_prog_70_method_8_6 : decode prog_70_method_8_code 6 = .ok (.invokestatic 25, 3) := by decide +kernel
theorem d_prog_70_method_8_9 : decode prog_70_method_8_code 9 = .ok (.putfield 9, 3) := by decide +kernel
theorem d_prog_70_method_8_12 : decode prog_70_method_8_code 12 = .ok (.aload_n 0, 1) := by decide +kernel
theorem d_prog_70_method_8_13 : decode prog_70_method_8_code 13 = .ok (.getfield 9, 3) := by decide +kernel
theorem d_prog_70_method_8_16 : decode prog_70_method_8_code 16 = .ok (.lreturn, 1) := by decide +kernel
theorem d_method_2_0 : decode method_2_code 0 = .ok (.ldc2_w 7, 3) := by decide +kernel
theorem d_method_2_3 : decode method_2_code 3 = .ok (.lstore 5, 2) := by decide +kernel
theorem d_method_2_5 : decode method_2_code 5 = .ok (.iload_n 0, 1) := by decide +kernel
theorem d_method_2_6 : decode method_2_code 6 = .ok (.iconst 1, 1) := by decide +kernel
theorem d_method_2_7 : decode method_2_code 7 = .ok (.if_icmp .lt 11, 3) := by decide +kernel
theorem d_method_2_18 : decode method_2_code 18 = .ok (.iload_n 0, 1) := by decide +kernel
theorem d_method_2_19 : decode method_2_code 19 = .ok (.iconst 2, 1) := by decide +kernel
theorem d_method_2_20 : decode method_2_code 20 = .ok (.if_icmp .lt 11, 3) := by decide +kernel
theorem d_method_2_31 : decode method_2_code 31 = .ok (.lload 5, 2) := by decide +kernel
theorem d_method_2_33 : decode method_2_code 33 = .ok (.lreturn, 1) := by decide +kernel
theorem d_method_2_23 : decode method_2_code 23 = .ok (.lload 5, 2) := by decide +kernel
theorem d_method_2_25 : decode method_2_code 25 = .ok (.lload_n 3, 1) := by decide +kernel
theorem d_method_2_26 : decode method_2_code 26 = .ok (.invokestatic 9, 3) := by decide +kernel
theorem d_method_2_29 : decode method_2_code 29 = .ok (.lstore 5, 2) := by decide +kernel
theorem d_method_2_10 : decode method_2_code 10 = .ok (.lload 5, 2) := by decide +kernel
theorem d_method_2_12 : decode method_2_code 12 = .ok (.lload_n 1, 1) := by decide +kernel
theorem d_method_2_13 : decode method_2_code 13 = .ok (.invokestatic 9, 3) := by decide +kernel
theorem d_method_2_16 : decode method_2_code 16 = .ok (.lstore 5, 2) := by decide +kernel
theorem d_prog_70_method_9_0 : decode prog_70_method_9_code 0 = .ok (.aload_n 0, 1) := by decide +kernel
theorem d_prog_70_method_9_1 : decode prog_70_method_9_code 1 = .ok (.getfield 9, 3) := by decide +kernel
theorem d_prog_70_method_9_4 : decode prog_70_method_9_code 4 = .ok (.lload_n 1, 1) := by decide +kernel
theorem d_prog_70_method_9_5 : decode prog_70_method_9_code 5 = .ok (.lcmp, 1) := by decide +kernel
theorem d_prog_70_method_9_6 : decode prog_70_method_9_code 6 = .ok (.ifCond .lt 7, 3) := by decide +kernel
theorem d_prog_70_method_9_9 : decode prog_70_method_9_code 9 = .ok (.iconst 1, 1) := by decide +kernel
theorem d_prog_70_method_9_10 : decode prog_70_method_9_code 10 = .ok (.goto 4, 3) := by decide +kernel
theorem d_prog_70_method_9_13 : decode prog_70_method_9_code 13 = .ok (.iconst 0, 1) := by decide +kernel
theorem d_prog_70_method_9_14 : decode prog_70_method_9_code 14 = .ok (.ireturn, 1) := by decide +kernel
theorem pd_0 : parseMethodDescriptor "(JJ)J" = some ⟨[.long, .long], some .long⟩ := by decide +kernel
theorem pd_1 : parseMethodDescriptor "()V" = some ⟨[], none⟩ := by decide +kernel
theorem pd_2 : parseMethodDescriptor "(IJJ)J" = some ⟨[.int, .long, .long], some .long⟩ := by decide +kernel
theorem pd_3 : parseMethodDescriptor "(J)Z" = some ⟨[.long], some .boolean⟩ := by decide +kernel
theorem pd_4 : parseMethodDescriptor "(J)J" = some ⟨[.long], some .long⟩ := by decide +kernel
theorem pn_0 : plainName "com/example/cormorant/cormorant/sim/Channel" = true := by first | (simp [plainName, overriddenIn]; done) | decide +kernel
theorem pn_1 : plainName "com/example/cormorant/cormorant/sim/ChannelAwaitsNoticePinLaw" = true := by first | (simp [plainName, overriddenIn]; done) | decide +kernel

def own_max (a b : Int64) : Int64 := if a < b then b else a
def own_latest (n : Int32) (a b : Int64) : Int64 := if n < 2 then (if n < 1 then -1 else own_max (-1) a) else own_max (if n < 1 then -1 else own_max (-1) a) b
theorem own_l0 (a b : Int64) : own_latest 0 a b = -1 := by unfold own_latest; rw [if_pos (by decide), if_pos (by decide)]
theorem own_l1 (a b : Int64) : own_latest 1 a b = own_max (-1) a := by unfold own_latest; rw [if_pos (by decide), if_neg (by decide)]
theorem own_l2 (a b : Int64) : own_latest 2 a b = own_max (own_max (-1) a) b := by unfold own_latest; rw [if_neg (by decide), if_neg (by decide)]
theorem own_irr (x : Int64) : ¬ x < x := by rw [Int64.lt_iff_toInt_lt]; omega
theorem own_up (x : Int64) (h : ¬ x = 9223372036854775807) : x < x + 1 := by
  have h1 := c_ladd x 1
  have h2 := rng64 x
  have h3 := rng64 (x + 1)
  have e : (1 : Int64).toInt = 1 := by decide
  have e2 : (9223372036854775807 : Int64).toInt = 9223372036854775807 := by decide
  have h4 : ¬ x.toInt = 9223372036854775807 := fun q => h (Int64.toInt_inj.mp (by rw [e2]; exact q))
  rw [Int64.lt_iff_toInt_lt]
  omega
theorem own_three (p v : Int32) (h : (p &&& (3 : Int32)) = v) : v = 0 ∨ v = 1 ∨ v = 2 ∨ v = 3 := by
  have h1 := c_mask p 3 2 (by omega) (by decide)
  rw [h] at h1
  have h2 : v.toInt = 0 ∨ v.toInt = 1 ∨ v.toInt = 2 ∨ v.toInt = 3 := by omega
  rcases h2 with q | q | q | q
  · exact Or.inl (Int32.toInt_inj.mp q)
  · exact Or.inr (Or.inl (Int32.toInt_inj.mp q))
  · exact Or.inr (Or.inr (Or.inl (Int32.toInt_inj.mp q)))
  · exact Or.inr (Or.inr (Or.inr (Int32.toInt_inj.mp q)))

theorem ef_rm_max (m : MethodId) (q0 : Int64) (q1 : Int64) : entryFrame m #[(.long q0), (.long q1)] 4 = mkF m 0 #[.val (.long q0), .second, .val (.long q1), .second] [] := by first | (simp [entryFrame, mkF, argsToLocals, Value.category]; done) | rfl
def Q_rm_max (Z : State) (q0 : Int64) (q1 : Int64) (h0 : Heap) (n0 : Nat) (v : Option Value) (h : Heap) : Prop := v = some (.long (own_max q0 q1)) ∧ h = h0
set_option maxRecDepth 65536 in
set_option maxHeartbeats 40000000 in
theorem rm_max (l : Launch) (Z : State) (aw : Array Value) (hw : ∀ d ∈ tables_1, d.before aw Z = true) (q0 : Int64) (q1 : Int64) (h0 : Heap) (n0 : Nat) :
    Con l Z (⟨"java/lang/Math", "max", "(JJ)J"⟩ : MethodName) jdk_29_method_66_code 4 (some .long) ({ frames := 0, cells := 0, slots := 0, locals := 0 } : Room) #[(.long q0), (.long q1)] h0 n0 (Q_rm_max Z q0 q1 h0 n0) := by
  refine Con.body (Jvm.Free.JP.mathPlain rfl (by decide +kernel)) ?_
  intro p e s m below meth c T B S
  refine Goes.cast (ef_rm_max m q0 q1) ?_
  refine Goes.go (fun _ => XS.lloadN S.here B.x rfl (B.d d_jdk_29_method_66_0) rfl) ?_
  show Goes _ _ _ _ T (mkF m 1 #[.val (.long q0), .second, .val (.long q1), .second] [(.long q0)])
  refine Goes.go (fun _ => XS.lloadN S.here B.x rfl (B.d d_jdk_29_method_66_1) rfl) ?_
  show Goes _ _ _ _ T (mkF m 2 #[.val (.long q0), .second, .val (.long q1), .second] [(.long q1), (.long q0)])
  refine Goes.go (fun _ => XS.lcmp S.here B.x rfl (B.d d_jdk_29_method_66_2) rfl) ?_
  show Goes _ _ _ _ T (mkF m 3 #[.val (.long q0), .second, .val (.long q1), .second] [(.int (lcmpW q0 q1))])
  by_cases hc3 : q0 < q1
  · skip
    refine Goes.go (fun _ => XS.ifYes S.here B.x rfl (pc0 := 3) (pc' := 10) rfl (B.d d_jdk_29_method_66_3) rfl ((if0 _ _).trans (tlt ((lw_lt q0 q1).mpr hc3)).1) (by decide) (by decide)) ?_
    show Goes _ _ _ _ T (mkF m 10 #[.val (.long q0), .second, .val (.long q1), .second] [])
    refine Goes.go (fun _ => XS.lloadN S.here B.x rfl (B.d d_jdk_29_method_66_10) rfl) ?_
    show Goes _ _ _ _ T (mkF m 11 #[.val (.long q0), .second, .val (.long q1), .second] [(.long q1)])
    refine Goes.retL S B d_jdk_29_method_66_11 (by decide) (by decide) ?_
    exact ⟨(by simp [own_max, *]), rfl⟩
  · skip
    refine Goes.go (fun _ => XS.ifNo S.here B.x rfl (B.d d_jdk_29_method_66_3) rfl ((if0 _ _).trans (flt (mt (lw_lt q0 q1).mp hc3)).1)) ?_
    show Goes _ _ _ _ T (mkF m 6 #[.val (.long q0), .second, .val (.long q1), .second] [])
    refine Goes.go (fun _ => XS.lloadN S.here B.x rfl (B.d d_jdk_29_method_66_6) rfl) ?_
    show Goes _ _ _ _ T (mkF m 7 #[.val (.long q0), .second, .val (.long q1), .second] [(.long q0)])
    refine Goes.go (fun _ => XS.goto S.here B.x rfl (pc0 := 7) (pc' := 11) rfl (B.d d_jdk_29_method_66_7) (by decide) (by decide)) ?_
    show Goes _ _ _ _ T (mkF m 11 #[.val (.long q0), .second, .val (.long q1), .second] [(.long q0)])
    refine Goes.retL S B d_jdk_29_method_66_11 (by decide) (by decide) ?_
    exact ⟨(by simp [own_max, *]), rfl⟩
theorem ef_rmI (m : MethodId) (a0 : Addr) : entryFrame m #[(.ref a0)] 1 = mkF m 0 #[.val (.ref a0)] [] := by first | (simp [entryFrame, mkF, argsToLocals, Value.category]; done) | rfl
def Q_rmI (Z : State) (a0 : Addr) (h0 : Heap) (n0 : Nat) (v : Option Value) (h : Heap) : Prop := v = none ∧ Keep h0 h [a0] ∧ Exa Z h a0 "com/example/cormorant/cormorant/sim/Channel" ∧ Fld Z h a0 "com/example/cormorant/cormorant/sim/Channel" "lastNotice" "J" (.long (-1 : Int64))
set_option maxRecDepth 65536 in
set_option maxHeartbeats 40000000 in
theorem rmI (l : Launch) (Z : State) (aw : Array Value) (hw : ∀ d ∈ tables_1, d.before aw Z = true) (a0 : Addr) (h0 : Heap) (n0 : Nat) (E_a0 : Exa Z h0 a0 "com/example/cormorant/cormorant/sim/Channel") (F_a0_lastNotice : Fld Z h0 a0 "com/example/cormorant/cormorant/sim/Channel" "lastNotice" "J" (.long (0 : Int64))) (g_a0 : n0 ≤ a0) :
    Con l Z (⟨"com/example/cormorant/cormorant/sim/Channel", "<init>", "()V"⟩ : MethodName) prog_70_method_1_code 1 none ({ frames := 1, cells := 0, slots := 0, locals := 12 } : Room) #[(.ref a0)] h0 n0 (Q_rmI Z a0 h0 n0) := by
  refine Con.body (plainFor_of_name pn_0) ?_
  intro p e s m below meth c T B S
  refine Goes.cast (ef_rmI m a0) ?_
  have K : Keep h0 h0 [a0] := Keep.refl _ _
  refine Goes.go (fun _ => XS.aloadN S.here B.x rfl (B.d d_prog_70_method_1_0) rfl rfl) ?_
  show Goes _ _ _ _ T (mkF m 1 #[.val (.ref a0)] [(.ref a0)])
  refine Goes.initO (W := 0) S B (w6 hw) (w7 hw) (w8 hw) d_prog_70_method_1_1 rfl (by decide) (Nat.le_of_eq rfl) (by decide) ?_
  intro T S
  show Goes _ _ _ _ T (mkF m 4 #[.val (.ref a0)] [])
  refine Goes.go (fun _ => XS.aloadN S.here B.x rfl (B.d d_prog_70_method_1_4) rfl rfl) ?_
  show Goes _ _ _ _ T (mkF m 5 #[.val (.ref a0)] [(.ref a0)])
  refine Goes.ldcL S B (w9 hw) d_prog_70_method_1_5 ?_
  show Goes _ _ _ _ T (mkF m 8 #[.val (.ref a0)] [(.long (-1 : Int64)), (.ref a0)])
  refine Goes.putF (v' := (.long (-1 : Int64))) S B (w10 hw) F_a0_lastNotice E_a0 (Or.inl (w11 hw)) (w1 hw) (ty := .long) (by decide) rfl rfl g_a0 d_prog_70_method_1_8 ?_
  intro T h S W
  replace K := K.wr W (Or.inl (by simp))
  replace E_a0 := E_a0.wr W
  replace F_a0_lastNotice := F_a0_lastNotice.same W
  show Goes _ _ _ _ T (mkF m 11 #[.val (.ref a0)] [])
  refine Goes.retV S B d_prog_70_method_1_11 (by decide) (by decide) ?_
  exact ⟨(by first | rfl | (rw [bi_pos (by assumption)]; rfl) | (rw [bi_neg (by assumption)]; rfl) | (rw [nar_bi]; exact congrArg (fun z => some (Value.int z)) (bi_congr (by simp_all))) | (simp_all [bi, nar]; done)), K, (by first | exact E_a0 | (simpa using E_a0)), (by first | exact F_a0_lastNotice | (simpa using F_a0_lastNotice))⟩
theorem ef_rm_notice (m : MethodId) (a0 : Addr) (q1 : Int64) : entryFrame m #[(.ref a0), (.long q1)] 3 = mkF m 0 #[.val (.ref a0), .val (.long q1), .second] [] := by first | (simp [entryFrame, mkF, argsToLocals, Value.category]; done) | rfl
def Q_rm_notice (Z : State) (a0 : Addr) (q1 : Int64) (g2 : Int64) (h0 : Heap) (n0 : Nat) (v : Option Value) (h : Heap) : Prop := v = some (.long (own_max g2 q1)) ∧ Keep h0 h [a0] ∧ Exa Z h a0 "com/example/cormorant/cormorant/sim/Channel" ∧ Fld Z h a0 "com/example/cormorant/cormorant/sim/Channel" "lastNotice" "J" (.long (own_max g2 q1))
set_option maxRecDepth 65536 in
set_option maxHeartbeats 40000000 in
theorem rm_notice (l : Launch) (Z : State) (aw : Array Value) (hw : ∀ d ∈ tables_1, d.before aw Z = true) (a0 : Addr) (q1 : Int64) (g2 : Int64) (h0 : Heap) (n0 : Nat) (E_a0 : Exa Z h0 a0 "com/example/cormorant/cormorant/sim/Channel") (F_a0_lastNotice : Fld Z h0 a0 "com/example/cormorant/cormorant/sim/Channel" "lastNotice" "J" (.long g2)) (g_a0 : n0 ≤ a0) :
    Con l Z (⟨"com/example/cormorant/cormorant/sim/Channel", "notice", "(J)J"⟩ : MethodName) prog_70_method_8_code 3 (some .long) ({ frames := 1, cells := 0, slots := 0, locals := 16 } : Room) #[(.ref a0), (.long q1)] h0 n0 (Q_rm_notice Z a0 q1 g2 h0 n0) := by
  refine Con.body (plainFor_of_name pn_0) ?_
  intro p e s m below meth c T B S
  refine Goes.cast (ef_rm_notice m a0 q1) ?_
  have K : Keep h0 h0 [a0] := Keep.refl _ _
  refine Goes.go (fun _ => XS.aloadN S.here B.x rfl (B.d d_prog_70_method_8_0) rfl rfl) ?_
  show Goes _ _ _ _ T (mkF m 1 #[.val (.ref a0), .val (.long q1), .second] [(.ref a0)])
  refine Goes.go (fun _ => XS.aloadN S.here B.x rfl (B.d d_prog_70_method_8_1) rfl rfl) ?_
  show Goes _ _ _ _ T (mkF m 2 #[.val (.ref a0), .val (.long q1), .second] [(.ref a0), (.ref a0)])
  refine Goes.getF S B (w10 hw) F_a0_lastNotice d_prog_70_method_8_2 ?_
  intro T S
  show Goes _ _ _ _ T (mkF m 5 #[.val (.ref a0), .val (.long q1), .second] [(.long g2), (.ref a0)])
  refine Goes.go (fun _ => XS.lloadN S.here B.x rfl (B.d d_prog_70_method_8_5) rfl) ?_
  show Goes _ _ _ _ T (mkF m 6 #[.val (.ref a0), .val (.long q1), .second] [(.long q1), (.long g2), (.ref a0)])
  refine Goes.callS (argsL := [(.long g2), (.long q1)]) (rest := [(.ref a0)]) (W := 1) S B (rm_max l Z aw hw g2 q1 _ n0) (w17 hw) (w18 hw) (w19 hw) (w20 hw) (by decide) (by decide) (by decide) (by decide) (by decide) rfl (lenOf pd_0 rfl) rfl (Nat.le_of_eq rfl) d_prog_70_method_8_6 ?_
  intro v T h S hQ
  obtain ⟨rfl, hh⟩ := hQ
  replace hh := hh.symm
  subst hh
  show Goes _ _ _ _ T (mkF m 9 #[.val (.ref a0), .val (.long q1), .second] [(.long (own_max g2 q1)), (.ref a0)])
  refine Goes.putF (v' := (.long (own_max g2 q1))) S B (w10 hw) F_a0_lastNotice E_a0 (Or.inl (w11 hw)) (w1 hw) (ty := .long) (by decide) rfl rfl g_a0 d_prog_70_method_8_9 ?_
  intro T h S W
  replace K := K.wr W (Or.inl (by simp))
  replace E_a0 := E_a0.wr W
  replace F_a0_lastNotice := F_a0_lastNotice.same W
  show Goes _ _ _ _ T (mkF m 12 #[.val (.ref a0), .val (.long q1), .second] [])
  refine Goes.go (fun _ => XS.aloadN S.here B.x rfl (B.d d_prog_70_method_8_12) rfl rfl) ?_
  show Goes _ _ _ _ T (mkF m 13 #[.val (.ref a0), .val (.long q1), .second] [(.ref a0)])
  refine Goes.getF S B (w10 hw) F_a0_lastNotice d_prog_70_method_8_13 ?_
  intro T S
  show Goes _ _ _ _ T (mkF m 16 #[.val (.ref a0), .val (.long q1), .second] [(.long (own_max g2 q1))])
  refine Goes.retL S B d_prog_70_method_8_16 (by decide) (by decide) ?_
  exact ⟨(by first | rfl | (rw [bi_pos (by assumption)]; rfl) | (rw [bi_neg (by assumption)]; rfl) | (rw [nar_bi]; exact congrArg (fun z => some (Value.int z)) (bi_congr (by simp_all))) | (simp_all [bi, nar]; done)), K, (by first | exact E_a0 | (simpa using E_a0)), (by first | exact F_a0_lastNotice | (simpa using F_a0_lastNotice))⟩
theorem ef_rm_latest (m : MethodId) (p0 : Int32) (q1 : Int64) (q2 : Int64) : entryFrame m #[(.int p0), (.long q1), (.long q2)] 7 = mkF m 0 #[.val (.int p0), .val (.long q1), .second, .val (.long q2), .second, .unset, .unset] [] := by first | (simp [entryFrame, mkF, argsToLocals, Value.category]; done) | rfl
def Q_rm_latest (Z : State) (p0 : Int32) (q1 : Int64) (q2 : Int64) (h0 : Heap) (n0 : Nat) (v : Option Value) (h : Heap) : Prop := v = some (.long (own_latest p0 q1 q2)) ∧ h = h0
set_option maxRecDepth 65536 in
set_option maxHeartbeats 40000000 in
theorem rm_latest (l : Launch) (Z : State) (aw : Array Value) (hw : ∀ d ∈ tables_1, d.before aw Z = true) (p0 : Int32) (q1 : Int64) (q2 : Int64) (h0 : Heap) (n0 : Nat) :
    Con l Z (⟨"com/example/cormorant/cormorant/sim/ChannelAwaitsNoticePinLaw", "latest", "(IJJ)J"⟩ : MethodName) method_2_code 7 (some .long) ({ frames := 1, cells := 0, slots := 0, locals := 15 } : Room) #[(.int p0), (.long q1), (.long q2)] h0 n0 (Q_rm_latest Z p0 q1 q2 h0 n0) := by
  refine Con.body (plainFor_of_name pn_1) ?_
  intro p e s m below meth c T B S
  refine Goes.cast (ef_rm_latest m p0 q1 q2) ?_
  refine Goes.ldcL S B (w25 hw) d_method_2_0 ?_
  show Goes _ _ _ _ T (mkF m 3 #[.val (.int p0), .val (.long q1), .second, .val (.long q2), .second, .unset, .unset] [(.long (-1 : Int64))])
  refine Goes.go (fun _ => XS.lstore S.here B.x rfl (B.d d_method_2_3) rfl (l' := #[.val (.int p0), .val (.long q1), .second, .val (.long q2), .second, .val (.long (-1 : Int64)), .second]) rfl) ?_
  show Goes _ _ _ _ T (mkF m 5 #[.val (.int p0), .val (.long q1), .second, .val (.long q2), .second, .val (.long (-1 : Int64)), .second] [])
  refine Goes.go (fun _ => XS.iloadN S.here B.x rfl (B.d d_method_2_5) rfl) ?_
  show Goes _ _ _ _ T (mkF m 6 #[.val (.int p0), .val (.long q1), .second, .val (.long q2), .second, .val (.long (-1 : Int64)), .second] [(.int p0)])
  refine Goes.go (fun _ => XS.iconst S.here B.x rfl (B.d d_method_2_6)) ?_
  show Goes _ _ _ _ T (mkF m 7 #[.val (.int p0), .val (.long q1), .second, .val (.long q2), .second, .val (.long (-1 : Int64)), .second] [(.int (1 : Int32)), (.int p0)])
  by_cases hc7 : p0 < (1 : Int32)
  · skip
    refine Goes.go (fun _ => XS.icmpYes S.here B.x rfl (pc0 := 7) (pc' := 18) rfl (B.d d_method_2_7) rfl (tlt hc7).1 (by decide) (by decide)) ?_
    show Goes _ _ _ _ T (mkF m 18 #[.val (.int p0), .val (.long q1), .second, .val (.long q2), .second, .val (.long (-1 : Int64)), .second] [])
    refine Goes.go (fun _ => XS.iloadN S.here B.x rfl (B.d d_method_2_18) rfl) ?_
    show Goes _ _ _ _ T (mkF m 19 #[.val (.int p0), .val (.long q1), .second, .val (.long q2), .second, .val (.long (-1 : Int64)), .second] [(.int p0)])
    refine Goes.go (fun _ => XS.iconst S.here B.x rfl (B.d d_method_2_19)) ?_
    show Goes _ _ _ _ T (mkF m 20 #[.val (.int p0), .val (.long q1), .second, .val (.long q2), .second, .val (.long (-1 : Int64)), .second] [(.int (2 : Int32)), (.int p0)])
    by_cases hc20 : p0 < (2 : Int32)
    · skip
      refine Goes.go (fun _ => XS.icmpYes S.here B.x rfl (pc0 := 20) (pc' := 31) rfl (B.d d_method_2_20) rfl (tlt hc20).1 (by decide) (by decide)) ?_
      show Goes _ _ _ _ T (mkF m 31 #[.val (.int p0), .val (.long q1), .second, .val (.long q2), .second, .val (.long (-1 : Int64)), .second] [])
      refine Goes.go (fun _ => XS.lload S.here B.x rfl (B.d d_method_2_31) rfl) ?_
      show Goes _ _ _ _ T (mkF m 33 #[.val (.int p0), .val (.long q1), .second, .val (.long q2), .second, .val (.long (-1 : Int64)), .second] [(.long (-1 : Int64))])
      refine Goes.retL S B d_method_2_33 (by decide) (by decide) ?_
      exact ⟨(by simp [own_latest, *]), rfl⟩
    · skip
      refine Goes.go (fun _ => XS.icmpNo S.here B.x rfl (B.d d_method_2_20) rfl (flt hc20).1) ?_
      show Goes _ _ _ _ T (mkF m 23 #[.val (.int p0), .val (.long q1), .second, .val (.long q2), .second, .val (.long (-1 : Int64)), .second] [])
      refine Goes.go (fun _ => XS.lload S.here B.x rfl (B.d d_method_2_23) rfl) ?_
      show Goes _ _ _ _ T (mkF m 25 #[.val (.int p0), .val (.long q1), .second, .val (.long q2), .second, .val (.long (-1 : Int64)), .second] [(.long (-1 : Int64))])
      refine Goes.go (fun _ => XS.lloadN S.here B.x rfl (B.d d_method_2_25) rfl) ?_
      show Goes _ _ _ _ T (mkF m 26 #[.val (.int p0), .val (.long q1), .second, .val (.long q2), .second, .val (.long (-1 : Int64)), .second] [(.long q2), (.long (-1 : Int64))])
      refine Goes.callS (argsL := [(.long (-1 : Int64)), (.long q2)]) (rest := []) (W := 0) S B (rm_max l Z aw hw (-1 : Int64) q2 _ n0) (w26 hw) (w18 hw) (w19 hw) (w20 hw) (by decide) (by decide) (by decide) (by decide) (by decide) rfl (lenOf pd_0 rfl) rfl (Nat.le_of_eq rfl) d_method_2_26 ?_
      intro v T h S hQ
      obtain ⟨rfl, hh⟩ := hQ
      replace hh := hh.symm
      subst hh
      show Goes _ _ _ _ T (mkF m 29 #[.val (.int p0), .val (.long q1), .second, .val (.long q2), .second, .val (.long (-1 : Int64)), .second] [(.long (own_max (-1 : Int64) q2))])
      refine Goes.go (fun _ => XS.lstore S.here B.x rfl (B.d d_method_2_29) rfl (l' := #[.val (.int p0), .val (.long q1), .second, .val (.long q2), .second, .val (.long (own_max (-1 : Int64) q2)), .second]) rfl) ?_
      show Goes _ _ _ _ T (mkF m 31 #[.val (.int p0), .val (.long q1), .second, .val (.long q2), .second, .val (.long (own_max (-1 : Int64) q2)), .second] [])
      refine Goes.go (fun _ => XS.lload S.here B.x rfl (B.d d_method_2_31) rfl) ?_
      show Goes _ _ _ _ T (mkF m 33 #[.val (.int p0), .val (.long q1), .second, .val (.long q2), .second, .val (.long (own_max (-1 : Int64) q2)), .second] [(.long (own_max (-1 : Int64) q2))])
      refine Goes.retL S B d_method_2_33 (by decide) (by decide) ?_
      exact ⟨(by simp [own_latest, *]), rfl⟩
  · skip
    refine Goes.go (fun _ => XS.icmpNo S.here B.x rfl (B.d d_method_2_7) rfl (flt hc7).1) ?_
    show Goes _ _ _ _ T (mkF m 10 #[.val (.int p0), .val (.long q1), .second, .val (.long q2), .second, .val (.long (-1 : Int64)), .second] [])
    refine Goes.go (fun _ => XS.lload S.here B.x rfl (B.d d_method_2_10) rfl) ?_
    show Goes _ _ _ _ T (mkF m 12 #[.val (.int p0), .val (.long q1), .second, .val (.long q2), .second, .val (.long (-1 : Int64)), .second] [(.long (-1 : Int64))])
    refine Goes.go (fun _ => XS.lloadN S.here B.x rfl (B.d d_method_2_12) rfl) ?_
    show Goes _ _ _ _ T (mkF m 13 #[.val (.int p0), .val (.long q1), .second, .val (.long q2), .second, .val (.long (-1 : Int64)), .second] [(.long q1), (.long (-1 : Int64))])
    refine Goes.callS (argsL := [(.long (-1 : Int64)), (.long q1)]) (rest := []) (W := 0) S B (rm_max l Z aw hw (-1 : Int64) q1 _ n0) (w26 hw) (w18 hw) (w19 hw) (w20 hw) (by decide) (by decide) (by decide) (by decide) (by decide) rfl (lenOf pd_0 rfl) rfl (Nat.le_of_eq rfl) d_method_2_13 ?_
    intro v T h S hQ
    obtain ⟨rfl, hh⟩ := hQ
    replace hh := hh.symm
    subst hh
    show Goes _ _ _ _ T (mkF m 16 #[.val (.int p0), .val (.long q1), .second, .val (.long q2), .second, .val (.long (-1 : Int64)), .second] [(.long (own_max (-1 : Int64) q1))])
    refine Goes.go (fun _ => XS.lstore S.here B.x rfl (B.d d_method_2_16) rfl (l' := #[.val (.int p0), .val (.long q1), .second, .val (.long q2), .second, .val (.long (own_max (-1 : Int64) q1)), .second]) rfl) ?_
    show Goes _ _ _ _ T (mkF m 18 #[.val (.int p0), .val (.long q1), .second, .val (.long q2), .second, .val (.long (own_max (-1 : Int64) q1)), .second] [])
    refine Goes.go (fun _ => XS.iloadN S.here B.x rfl (B.d d_method_2_18) rfl) ?_
    show Goes _ _ _ _ T (mkF m 19 #[.val (.int p0), .val (.long q1), .second, .val (.long q2), .second, .val (.long (own_max (-1 : Int64) q1)), .second] [(.int p0)])
    refine Goes.go (fun _ => XS.iconst S.here B.x rfl (B.d d_method_2_19)) ?_
    show Goes _ _ _ _ T (mkF m 20 #[.val (.int p0), .val (.long q1), .second, .val (.long q2), .second, .val (.long (own_max (-1 : Int64) q1)), .second] [(.int (2 : Int32)), (.int p0)])
    by_cases hc20 : p0 < (2 : Int32)
    · skip
      refine Goes.go (fun _ => XS.icmpYes S.here B.x rfl (pc0 := 20) (pc' := 31) rfl (B.d d_method_2_20) rfl (tlt hc20).1 (by decide) (by decide)) ?_
      show Goes _ _ _ _ T (mkF m 31 #[.val (.int p0), .val (.long q1), .second, .val (.long q2), .second, .val (.long (own_max (-1 : Int64) q1)), .second] [])
      refine Goes.go (fun _ => XS.lload S.here B.x rfl (B.d d_method_2_31) rfl) ?_
      show Goes _ _ _ _ T (mkF m 33 #[.val (.int p0), .val (.long q1), .second, .val (.long q2), .second, .val (.long (own_max (-1 : Int64) q1)), .second] [(.long (own_max (-1 : Int64) q1))])
      refine Goes.retL S B d_method_2_33 (by decide) (by decide) ?_
      exact ⟨(by simp [own_latest, *]), rfl⟩
    · skip
      refine Goes.go (fun _ => XS.icmpNo S.here B.x rfl (B.d d_method_2_20) rfl (flt hc20).1) ?_
      show Goes _ _ _ _ T (mkF m 23 #[.val (.int p0), .val (.long q1), .second, .val (.long q2), .second, .val (.long (own_max (-1 : Int64) q1)), .second] [])
      refine Goes.go (fun _ => XS.lload S.here B.x rfl (B.d d_method_2_23) rfl) ?_
      show Goes _ _ _ _ T (mkF m 25 #[.val (.int p0), .val (.long q1), .second, .val (.long q2), .second, .val (.long (own_max (-1 : Int64) q1)), .second] [(.long (own_max (-1 : Int64) q1))])
      refine Goes.go (fun _ => XS.lloadN S.here B.x rfl (B.d d_method_2_25) rfl) ?_
      show Goes _ _ _ _ T (mkF m 26 #[.val (.int p0), .val (.long q1), .second, .val (.long q2), .second, .val (.long (own_max (-1 : Int64) q1)), .second] [(.long q2), (.long (own_max (-1 : Int64) q1))])
      refine Goes.callS (argsL := [(.long (own_max (-1 : Int64) q1)), (.long q2)]) (rest := []) (W := 0) S B (rm_max l Z aw hw (own_max (-1 : Int64) q1) q2 _ n0) (w26 hw) (w18 hw) (w19 hw) (w20 hw) (by decide) (by decide) (by decide) (by decide) (by decide) rfl (lenOf pd_0 rfl) rfl (Nat.le_of_eq rfl) d_method_2_26 ?_
      intro v T h S hQ
      obtain ⟨rfl, hh⟩ := hQ
      replace hh := hh.symm
      subst hh
      show Goes _ _ _ _ T (mkF m 29 #[.val (.int p0), .val (.long q1), .second, .val (.long q2), .second, .val (.long (own_max (-1 : Int64) q1)), .second] [(.long (own_max (own_max (-1 : Int64) q1) q2))])
      refine Goes.go (fun _ => XS.lstore S.here B.x rfl (B.d d_method_2_29) rfl (l' := #[.val (.int p0), .val (.long q1), .second, .val (.long q2), .second, .val (.long (own_max (own_max (-1 : Int64) q1) q2)), .second]) rfl) ?_
      show Goes _ _ _ _ T (mkF m 31 #[.val (.int p0), .val (.long q1), .second, .val (.long q2), .second, .val (.long (own_max (own_max (-1 : Int64) q1) q2)), .second] [])
      refine Goes.go (fun _ => XS.lload S.here B.x rfl (B.d d_method_2_31) rfl) ?_
      show Goes _ _ _ _ T (mkF m 33 #[.val (.int p0), .val (.long q1), .second, .val (.long q2), .second, .val (.long (own_max (own_max (-1 : Int64) q1) q2)), .second] [(.long (own_max (own_max (-1 : Int64) q1) q2))])
      refine Goes.retL S B d_method_2_33 (by decide) (by decide) ?_
      exact ⟨(by simp [own_latest, *]), rfl⟩
theorem ef_rm_awaits (m : MethodId) (a0 : Addr) (q1 : Int64) : entryFrame m #[(.ref a0), (.long q1)] 3 = mkF m 0 #[.val (.ref a0), .val (.long q1), .second] [] := by first | (simp [entryFrame, mkF, argsToLocals, Value.category]; done) | rfl
def Q_rm_awaits (Z : State) (a0 : Addr) (q1 : Int64) (g2 : Int64) (h0 : Heap) (n0 : Nat) (v : Option Value) (h : Heap) : Prop := v = some (.int (bi (¬ g2 < q1))) ∧ h = h0
set_option maxRecDepth 65536 in
set_option maxHeartbeats 40000000 in
theorem rm_awaits (l : Launch) (Z : State) (aw : Array Value) (hw : ∀ d ∈ tables_1, d.before aw Z = true) (a0 : Addr) (q1 : Int64) (g2 : Int64) (h0 : Heap) (n0 : Nat) (F_a0_lastNotice : Fld Z h0 a0 "com/example/cormorant/cormorant/sim/Channel" "lastNotice" "J" (.long g2)) :
    Con l Z (⟨"com/example/cormorant/cormorant/sim/Channel", "awaitsNotice", "(J)Z"⟩ : MethodName) prog_70_method_9_code 3 (some .boolean) ({ frames := 0, cells := 0, slots := 0, locals := 0 } : Room) #[(.ref a0), (.long q1)] h0 n0 (Q_rm_awaits Z a0 q1 g2 h0 n0) := by
  refine Con.body (plainFor_of_name pn_0) ?_
  intro p e s m below meth c T B S
  refine Goes.cast (ef_rm_awaits m a0 q1) ?_
  refine Goes.go (fun _ => XS.aloadN S.here B.x rfl (B.d d_prog_70_method_9_0) rfl rfl) ?_
  show Goes _ _ _ _ T (mkF m 1 #[.val (.ref a0), .val (.long q1), .second] [(.ref a0)])
  refine Goes.getF S B (w10 hw) F_a0_lastNotice d_prog_70_method_9_1 ?_
  intro T S
  show Goes _ _ _ _ T (mkF m 4 #[.val (.ref a0), .val (.long q1), .second] [(.long g2)])
  refine Goes.go (fun _ => XS.lloadN S.here B.x rfl (B.d d_prog_70_method_9_4) rfl) ?_
  show Goes _ _ _ _ T (mkF m 5 #[.val (.ref a0), .val (.long q1), .second] [(.long q1), (.long g2)])
  refine Goes.go (fun _ => XS.lcmp S.here B.x rfl (B.d d_prog_70_method_9_5) rfl) ?_
  show Goes _ _ _ _ T (mkF m 6 #[.val (.ref a0), .val (.long q1), .second] [(.int (lcmpW g2 q1))])
  refine Goes.dia (P := ¬ (g2 < q1)) (mk := fun z => (mkF m 14 #[.val (.ref a0), .val (.long q1), .second] [(.int z)])) (fun hc6 kk => ?_) (fun hc6 kk => ?_) ?_
  · skip
    refine Goes.go (fun _ => XS.ifNo S.here B.x rfl (B.d d_prog_70_method_9_6) rfl ((if0 _ _).trans (flt (mt (lw_lt g2 q1).mp hc6)).1)) ?_
    show Goes _ _ _ _ T (mkF m 9 #[.val (.ref a0), .val (.long q1), .second] [])
    refine Goes.go (fun _ => XS.iconst S.here B.x rfl (B.d d_prog_70_method_9_9)) ?_
    show Goes _ _ _ _ T (mkF m 10 #[.val (.ref a0), .val (.long q1), .second] [(.int (1 : Int32))])
    refine Goes.go (fun _ => XS.goto S.here B.x rfl (pc0 := 10) (pc' := 14) rfl (B.d d_prog_70_method_9_10) (by decide) (by decide)) ?_
    show Goes _ _ _ _ T (mkF m 14 #[.val (.ref a0), .val (.long q1), .second] [(.int (1 : Int32))])
    exact kk
  · skip
    refine Goes.go (fun _ => XS.ifYes S.here B.x rfl (pc0 := 6) (pc' := 13) rfl (B.d d_prog_70_method_9_6) rfl ((if0 _ _).trans (tlt ((lw_lt g2 q1).mpr (Classical.not_not.mp hc6))).1) (by decide) (by decide)) ?_
    show Goes _ _ _ _ T (mkF m 13 #[.val (.ref a0), .val (.long q1), .second] [])
    refine Goes.go (fun _ => XS.iconst S.here B.x rfl (B.d d_prog_70_method_9_13)) ?_
    show Goes _ _ _ _ T (mkF m 14 #[.val (.ref a0), .val (.long q1), .second] [(.int (0 : Int32))])
    exact kk
  show Goes _ _ _ _ T (mkF m 14 #[.val (.ref a0), .val (.long q1), .second] [(.int (bi (¬ (g2 < q1))))])
  refine Goes.retN S B (by simp) d_prog_70_method_9_14 (by decide) (by decide) ?_
  exact ⟨(by rw [nar_bi]), rfl⟩
theorem ef_rm0 (m : MethodId) (q0 : Int64) (q1 : Int64) (q2 : Int64) (p3 : Int32) : entryFrame m #[(.long q0), (.long q1), (.long q2), (.int p3)] maxLocals = mkF m 0 #[.val (.long q0), .second, .val (.long q1), .second, .val (.long q2), .second, .val (.int p3), .unset, .unset, .unset, .unset, .unset, .unset, .unset] [] := by first | (simp [entryFrame, mkF, argsToLocals, Value.category, maxLocals]; done) | rfl
def Q_rm0 (Z : State) (q0 : Int64) (q1 : Int64) (q2 : Int64) (p3 : Int32) (h0 : Heap) (n0 : Nat) (v : Option Value) (h : Heap) : Prop := v = some (.int 1)
set_option maxRecDepth 65536 in
set_option maxHeartbeats 40000000 in
theorem rm0 (l : Launch) (Z : State) (aw : Array Value) (hw : ∀ d ∈ tables_1, d.before aw Z = true) (q0 : Int64) (q1 : Int64) (q2 : Int64) (p3 : Int32) (h0 : Heap) (n0 : Nat) :
    Con l Z x code maxLocals ret room_1 #[(.long q0), (.long q1), (.long q2), (.int p3)] h0 n0 (Q_rm0 Z q0 q1 q2 p3 h0 n0) := by
  refine Con.body (plainFor_of_name pn_1) ?_
  intro p e s m below meth c T B S
  refine Goes.cast (ef_rm0 m q0 q1 q2 p3) ?_
  refine Goes.go (fun _ => XS.iload S.here B.x rfl (B.d at_0) rfl) ?_
  show Goes _ _ _ _ T (mkF m 2 #[.val (.long q0), .second, .val (.long q1), .second, .val (.long q2), .second, .val (.int p3), .unset, .unset, .unset, .unset, .unset, .unset, .unset] [(.int p3)])
  refine Goes.go (fun _ => XS.iconst S.here B.x rfl (B.d at_2)) ?_
  show Goes _ _ _ _ T (mkF m 3 #[.val (.long q0), .second, .val (.long q1), .second, .val (.long q2), .second, .val (.int p3), .unset, .unset, .unset, .unset, .unset, .unset, .unset] [(.int (3 : Int32)), (.int p3)])
  refine Goes.go (fun _ => XS.iand S.here B.x rfl (B.d at_3) rfl) ?_
  show Goes _ _ _ _ T (mkF m 4 #[.val (.long q0), .second, .val (.long q1), .second, .val (.long q2), .second, .val (.int p3), .unset, .unset, .unset, .unset, .unset, .unset, .unset] [(.int (p3 &&& (3 : Int32)))])
  generalize hv1 : (p3 &&& (3 : Int32)) = v1
  refine Goes.go (fun _ => XS.istore S.here B.x rfl (B.d at_4) rfl (l' := #[.val (.long q0), .second, .val (.long q1), .second, .val (.long q2), .second, .val (.int p3), .val (.int v1), .unset, .unset, .unset, .unset, .unset, .unset]) rfl) ?_
  show Goes _ _ _ _ T (mkF m 6 #[.val (.long q0), .second, .val (.long q1), .second, .val (.long q2), .second, .val (.int p3), .val (.int v1), .unset, .unset, .unset, .unset, .unset, .unset] [])
  rcases own_three _ _ hv1 with rfl | rfl | rfl | rfl
  · skip
    show Goes _ _ _ _ T (mkF m 6 #[.val (.long q0), .second, .val (.long q1), .second, .val (.long q2), .second, .val (.int p3), .val (.int (0 : Int32)), .unset, .unset, .unset, .unset, .unset, .unset] [])
    refine Goes.go (fun _ => XS.iload S.here B.x rfl (B.d at_6) rfl) ?_
    show Goes _ _ _ _ T (mkF m 8 #[.val (.long q0), .second, .val (.long q1), .second, .val (.long q2), .second, .val (.int p3), .val (.int (0 : Int32)), .unset, .unset, .unset, .unset, .unset, .unset] [(.int (0 : Int32))])
    refine Goes.go (fun _ => XS.iconst S.here B.x rfl (B.d at_8)) ?_
    show Goes _ _ _ _ T (mkF m 9 #[.val (.long q0), .second, .val (.long q1), .second, .val (.long q2), .second, .val (.int p3), .val (.int (0 : Int32)), .unset, .unset, .unset, .unset, .unset, .unset] [(.int (3 : Int32)), (.int (0 : Int32))])
    refine Goes.go (fun _ => XS.icmpYes S.here B.x rfl (pc0 := 9) (pc' := 15) rfl (B.d at_9) rfl (by decide) (by decide) (by decide)) ?_
    show Goes _ _ _ _ T (mkF m 15 #[.val (.long q0), .second, .val (.long q1), .second, .val (.long q2), .second, .val (.int p3), .val (.int (0 : Int32)), .unset, .unset, .unset, .unset, .unset, .unset] [])
    refine Goes.newO S B (w0 hw) (w1 hw) (w2 hw) at_15 (by decide) (by decide) ?_
    intro T h b2 S X zb g_b2 E_b2 D
    have F_b2_lastNotice : Fld Z h b2 "com/example/cormorant/cormorant/sim/Channel" "lastNotice" "J" (.long (0 : Int64)) := D (Or.inl (w11 hw)) (ty := .long) (by decide)
    show Goes _ _ _ _ T (mkF m 18 #[.val (.long q0), .second, .val (.long q1), .second, .val (.long q2), .second, .val (.int p3), .val (.int (0 : Int32)), .unset, .unset, .unset, .unset, .unset, .unset] [(.ref b2)])
    refine Goes.go (fun _ => XS.dup S.here B.x rfl (B.d at_18) rfl rfl) ?_
    show Goes _ _ _ _ T (mkF m 19 #[.val (.long q0), .second, .val (.long q1), .second, .val (.long q2), .second, .val (.int p3), .val (.int (0 : Int32)), .unset, .unset, .unset, .unset, .unset, .unset] [(.ref b2), (.ref b2)])
    refine Goes.callI (argsL := []) (rest := [(.ref b2)]) (W := 1) S B (rmI l Z aw hw b2 _ n0 E_b2 F_b2_lastNotice g_b2) (w3 hw) (w4 hw) (w2 hw) (w5 hw) (by decide) rfl (by decide) (by decide) (by decide) (by decide) rfl (lenOf pd_1 rfl) rfl (Nat.le_of_eq rfl) at_19 ?_
    intro v T h S hQ
    obtain ⟨rfl, Kc, E_b2', F_b2_lastNotice'⟩ := hQ
    replace E_b2 := E_b2'
    replace F_b2_lastNotice := F_b2_lastNotice'
    show Goes _ _ _ _ T (mkF m 22 #[.val (.long q0), .second, .val (.long q1), .second, .val (.long q2), .second, .val (.int p3), .val (.int (0 : Int32)), .unset, .unset, .unset, .unset, .unset, .unset] [(.ref b2)])
    refine Goes.go (fun _ => XS.astore S.here B.x rfl (B.d at_22) rfl rfl (l' := #[.val (.long q0), .second, .val (.long q1), .second, .val (.long q2), .second, .val (.int p3), .val (.int (0 : Int32)), .val (.ref b2), .unset, .unset, .unset, .unset, .unset]) rfl) ?_
    show Goes _ _ _ _ T (mkF m 24 #[.val (.long q0), .second, .val (.long q1), .second, .val (.long q2), .second, .val (.int p3), .val (.int (0 : Int32)), .val (.ref b2), .unset, .unset, .unset, .unset, .unset] [])
    refine Goes.go (fun _ => XS.iload S.here B.x rfl (B.d at_24) rfl) ?_
    show Goes _ _ _ _ T (mkF m 26 #[.val (.long q0), .second, .val (.long q1), .second, .val (.long q2), .second, .val (.int p3), .val (.int (0 : Int32)), .val (.ref b2), .unset, .unset, .unset, .unset, .unset] [(.int (0 : Int32))])
    refine Goes.go (fun _ => XS.iconst S.here B.x rfl (B.d at_26)) ?_
    show Goes _ _ _ _ T (mkF m 27 #[.val (.long q0), .second, .val (.long q1), .second, .val (.long q2), .second, .val (.int p3), .val (.int (0 : Int32)), .val (.ref b2), .unset, .unset, .unset, .unset, .unset] [(.int (1 : Int32)), (.int (0 : Int32))])
    refine Goes.go (fun _ => XS.icmpYes S.here B.x rfl (pc0 := 27) (pc' := 37) rfl (B.d at_27) rfl (by decide) (by decide) (by decide)) ?_
    show Goes _ _ _ _ T (mkF m 37 #[.val (.long q0), .second, .val (.long q1), .second, .val (.long q2), .second, .val (.int p3), .val (.int (0 : Int32)), .val (.ref b2), .unset, .unset, .unset, .unset, .unset] [])
    refine Goes.go (fun _ => XS.iload S.here B.x rfl (B.d at_37) rfl) ?_
    show Goes _ _ _ _ T (mkF m 39 #[.val (.long q0), .second, .val (.long q1), .second, .val (.long q2), .second, .val (.int p3), .val (.int (0 : Int32)), .val (.ref b2), .unset, .unset, .unset, .unset, .unset] [(.int (0 : Int32))])
    refine Goes.go (fun _ => XS.iconst S.here B.x rfl (B.d at_39)) ?_
    show Goes _ _ _ _ T (mkF m 40 #[.val (.long q0), .second, .val (.long q1), .second, .val (.long q2), .second, .val (.int p3), .val (.int (0 : Int32)), .val (.ref b2), .unset, .unset, .unset, .unset, .unset] [(.int (2 : Int32)), (.int (0 : Int32))])
    refine Goes.go (fun _ => XS.icmpYes S.here B.x rfl (pc0 := 40) (pc' := 50) rfl (B.d at_40) rfl (by decide) (by decide) (by decide)) ?_
    show Goes _ _ _ _ T (mkF m 50 #[.val (.long q0), .second, .val (.long q1), .second, .val (.long q2), .second, .val (.int p3), .val (.int (0 : Int32)), .val (.ref b2), .unset, .unset, .unset, .unset, .unset] [])
    refine Goes.go (fun _ => XS.iload S.here B.x rfl (B.d at_50) rfl) ?_
    show Goes _ _ _ _ T (mkF m 52 #[.val (.long q0), .second, .val (.long q1), .second, .val (.long q2), .second, .val (.int p3), .val (.int (0 : Int32)), .val (.ref b2), .unset, .unset, .unset, .unset, .unset] [(.int (0 : Int32))])
    refine Goes.go (fun _ => XS.lloadN S.here B.x rfl (B.d at_52) rfl) ?_
    show Goes _ _ _ _ T (mkF m 53 #[.val (.long q0), .second, .val (.long q1), .second, .val (.long q2), .second, .val (.int p3), .val (.int (0 : Int32)), .val (.ref b2), .unset, .unset, .unset, .unset, .unset] [(.long q0), (.int (0 : Int32))])
    refine Goes.go (fun _ => XS.lloadN S.here B.x rfl (B.d at_53) rfl) ?_
    show Goes _ _ _ _ T (mkF m 54 #[.val (.long q0), .second, .val (.long q1), .second, .val (.long q2), .second, .val (.int p3), .val (.int (0 : Int32)), .val (.ref b2), .unset, .unset, .unset, .unset, .unset] [(.long q1), (.long q0), (.int (0 : Int32))])
    refine Goes.callS (argsL := [(.int (0 : Int32)), (.long q0), (.long q1)]) (rest := []) (W := 0) S B (rm_latest l Z aw hw (0 : Int32) q0 q1 _ n0) (w21 hw) (w22 hw) (w23 hw) (w24 hw) (by decide) (by decide) (by decide) (by decide) (by decide) rfl (lenOf pd_2 rfl) rfl (Nat.le_of_eq rfl) at_54 ?_
    intro v T h S hQ
    obtain ⟨rfl, hh⟩ := hQ
    replace hh := hh.symm
    subst hh
    show Goes _ _ _ _ T (mkF m 57 #[.val (.long q0), .second, .val (.long q1), .second, .val (.long q2), .second, .val (.int p3), .val (.int (0 : Int32)), .val (.ref b2), .unset, .unset, .unset, .unset, .unset] [(.long (own_latest (0 : Int32) q0 q1))])
    rw [show (own_latest (0 : Int32) q0 q1) = (-1 : Int64) from own_l0 _ _]
    show Goes _ _ _ _ T (mkF m 57 #[.val (.long q0), .second, .val (.long q1), .second, .val (.long q2), .second, .val (.int p3), .val (.int (0 : Int32)), .val (.ref b2), .unset, .unset, .unset, .unset, .unset] [(.long (-1 : Int64))])
    refine Goes.go (fun _ => XS.lstore S.here B.x rfl (B.d at_57) rfl (l' := #[.val (.long q0), .second, .val (.long q1), .second, .val (.long q2), .second, .val (.int p3), .val (.int (0 : Int32)), .val (.ref b2), .val (.long (-1 : Int64)), .second, .unset, .unset, .unset]) rfl) ?_
    show Goes _ _ _ _ T (mkF m 59 #[.val (.long q0), .second, .val (.long q1), .second, .val (.long q2), .second, .val (.int p3), .val (.int (0 : Int32)), .val (.ref b2), .val (.long (-1 : Int64)), .second, .unset, .unset, .unset] [])
    refine Goes.go (fun _ => XS.aload S.here B.x rfl (B.d at_59) rfl rfl) ?_
    show Goes _ _ _ _ T (mkF m 61 #[.val (.long q0), .second, .val (.long q1), .second, .val (.long q2), .second, .val (.int p3), .val (.int (0 : Int32)), .val (.ref b2), .val (.long (-1 : Int64)), .second, .unset, .unset, .unset] [(.ref b2)])
    refine Goes.go (fun _ => XS.lload S.here B.x rfl (B.d at_61) rfl) ?_
    show Goes _ _ _ _ T (mkF m 63 #[.val (.long q0), .second, .val (.long q1), .second, .val (.long q2), .second, .val (.int p3), .val (.int (0 : Int32)), .val (.ref b2), .val (.long (-1 : Int64)), .second, .unset, .unset, .unset] [(.long q2), (.ref b2)])
    refine Goes.callV (argsL := [(.long q2)]) (rest := []) (W := 0) S B (rm_awaits l Z aw hw b2 q2 (-1 : Int64) _ n0 F_b2_lastNotice) E_b2 (w27 hw) (w28 hw) (w30 hw) (w29 hw) (w2 hw) (w31 hw) (by decide) (by decide) (by decide) (by decide) (by decide) rfl (lenOf pd_3 rfl) rfl (Nat.le_of_eq rfl) at_63 ?_
    intro v T h S hQ
    obtain ⟨rfl, hh⟩ := hQ
    replace hh := hh.symm
    subst hh
    show Goes _ _ _ _ T (mkF m 66 #[.val (.long q0), .second, .val (.long q1), .second, .val (.long q2), .second, .val (.int p3), .val (.int (0 : Int32)), .val (.ref b2), .val (.long (-1 : Int64)), .second, .unset, .unset, .unset] [(.int (bi (¬ (-1 : Int64) < q2)))])
    refine Goes.go (fun _ => XS.lload S.here B.x rfl (B.d at_66) rfl) ?_
    show Goes _ _ _ _ T (mkF m 68 #[.val (.long q0), .second, .val (.long q1), .second, .val (.long q2), .second, .val (.int p3), .val (.int (0 : Int32)), .val (.ref b2), .val (.long (-1 : Int64)), .second, .unset, .unset, .unset] [(.long (-1 : Int64)), (.int (bi (¬ (-1 : Int64) < q2)))])
    refine Goes.go (fun _ => XS.lload S.here B.x rfl (B.d at_68) rfl) ?_
    show Goes _ _ _ _ T (mkF m 70 #[.val (.long q0), .second, .val (.long q1), .second, .val (.long q2), .second, .val (.int p3), .val (.int (0 : Int32)), .val (.ref b2), .val (.long (-1 : Int64)), .second, .unset, .unset, .unset] [(.long q2), (.long (-1 : Int64)), (.int (bi (¬ (-1 : Int64) < q2)))])
    refine Goes.go (fun _ => XS.lcmp S.here B.x rfl (B.d at_70) rfl) ?_
    show Goes _ _ _ _ T (mkF m 71 #[.val (.long q0), .second, .val (.long q1), .second, .val (.long q2), .second, .val (.int p3), .val (.int (0 : Int32)), .val (.ref b2), .val (.long (-1 : Int64)), .second, .unset, .unset, .unset] [(.int (lcmpW (-1 : Int64) q2)), (.int (bi (¬ (-1 : Int64) < q2)))])
    refine Goes.dia (P := ¬ ((-1 : Int64) < q2)) (mk := fun z => (mkF m 79 #[.val (.long q0), .second, .val (.long q1), .second, .val (.long q2), .second, .val (.int p3), .val (.int (0 : Int32)), .val (.ref b2), .val (.long (-1 : Int64)), .second, .unset, .unset, .unset] [(.int z), (.int (bi (¬ (-1 : Int64) < q2)))])) (fun hc71 kk => ?_) (fun hc71 kk => ?_) ?_
    · skip
      refine Goes.go (fun _ => XS.ifNo S.here B.x rfl (B.d at_71) rfl ((if0 _ _).trans (flt (mt (lw_lt (-1 : Int64) q2).mp hc71)).1)) ?_
      show Goes _ _ _ _ T (mkF m 74 #[.val (.long q0), .second, .val (.long q1), .second, .val (.long q2), .second, .val (.int p3), .val (.int (0 : Int32)), .val (.ref b2), .val (.long (-1 : Int64)), .second, .unset, .unset, .unset] [(.int (bi (¬ (-1 : Int64) < q2)))])
      refine Goes.go (fun _ => XS.iconst S.here B.x rfl (B.d at_74)) ?_
      show Goes _ _ _ _ T (mkF m 75 #[.val (.long q0), .second, .val (.long q1), .second, .val (.long q2), .second, .val (.int p3), .val (.int (0 : Int32)), .val (.ref b2), .val (.long (-1 : Int64)), .second, .unset, .unset, .unset] [(.int (1 : Int32)), (.int (bi (¬ (-1 : Int64) < q2)))])
      refine Goes.go (fun _ => XS.goto S.here B.x rfl (pc0 := 75) (pc' := 79) rfl (B.d at_75) (by decide) (by decide)) ?_
      show Goes _ _ _ _ T (mkF m 79 #[.val (.long q0), .second, .val (.long q1), .second, .val (.long q2), .second, .val (.int p3), .val (.int (0 : Int32)), .val (.ref b2), .val (.long (-1 : Int64)), .second, .unset, .unset, .unset] [(.int (1 : Int32)), (.int (bi (¬ (-1 : Int64) < q2)))])
      exact kk
    · skip
      refine Goes.go (fun _ => XS.ifYes S.here B.x rfl (pc0 := 71) (pc' := 78) rfl (B.d at_71) rfl ((if0 _ _).trans (tlt ((lw_lt (-1 : Int64) q2).mpr (Classical.not_not.mp hc71))).1) (by decide) (by decide)) ?_
      show Goes _ _ _ _ T (mkF m 78 #[.val (.long q0), .second, .val (.long q1), .second, .val (.long q2), .second, .val (.int p3), .val (.int (0 : Int32)), .val (.ref b2), .val (.long (-1 : Int64)), .second, .unset, .unset, .unset] [(.int (bi (¬ (-1 : Int64) < q2)))])
      refine Goes.go (fun _ => XS.iconst S.here B.x rfl (B.d at_78)) ?_
      show Goes _ _ _ _ T (mkF m 79 #[.val (.long q0), .second, .val (.long q1), .second, .val (.long q2), .second, .val (.int p3), .val (.int (0 : Int32)), .val (.ref b2), .val (.long (-1 : Int64)), .second, .unset, .unset, .unset] [(.int (0 : Int32)), (.int (bi (¬ (-1 : Int64) < q2)))])
      exact kk
    show Goes _ _ _ _ T (mkF m 79 #[.val (.long q0), .second, .val (.long q1), .second, .val (.long q2), .second, .val (.int p3), .val (.int (0 : Int32)), .val (.ref b2), .val (.long (-1 : Int64)), .second, .unset, .unset, .unset] [(.int (bi (¬ ((-1 : Int64) < q2)))), (.int (bi (¬ (-1 : Int64) < q2)))])
    refine Goes.go (fun _ => XS.icmpNo S.here B.x rfl (B.d at_79) rfl (teq (show (bi (¬ (-1 : Int64) < q2)) = (bi (¬ ((-1 : Int64) < q2))) from rfl)).2) ?_
    show Goes _ _ _ _ T (mkF m 82 #[.val (.long q0), .second, .val (.long q1), .second, .val (.long q2), .second, .val (.int p3), .val (.int (0 : Int32)), .val (.ref b2), .val (.long (-1 : Int64)), .second, .unset, .unset, .unset] [])
    refine Goes.go (fun _ => XS.iconst S.here B.x rfl (B.d at_82)) ?_
    show Goes _ _ _ _ T (mkF m 83 #[.val (.long q0), .second, .val (.long q1), .second, .val (.long q2), .second, .val (.int p3), .val (.int (0 : Int32)), .val (.ref b2), .val (.long (-1 : Int64)), .second, .unset, .unset, .unset] [(.int (1 : Int32))])
    refine Goes.go (fun _ => XS.goto S.here B.x rfl (pc0 := 83) (pc' := 87) rfl (B.d at_83) (by decide) (by decide)) ?_
    show Goes _ _ _ _ T (mkF m 87 #[.val (.long q0), .second, .val (.long q1), .second, .val (.long q2), .second, .val (.int p3), .val (.int (0 : Int32)), .val (.ref b2), .val (.long (-1 : Int64)), .second, .unset, .unset, .unset] [(.int (1 : Int32))])
    refine Goes.go (fun _ => XS.istore S.here B.x rfl (B.d at_87) rfl (l' := #[.val (.long q0), .second, .val (.long q1), .second, .val (.long q2), .second, .val (.int p3), .val (.int (0 : Int32)), .val (.ref b2), .val (.long (-1 : Int64)), .second, .val (.int (1 : Int32)), .unset, .unset]) rfl) ?_
    show Goes _ _ _ _ T (mkF m 89 #[.val (.long q0), .second, .val (.long q1), .second, .val (.long q2), .second, .val (.int p3), .val (.int (0 : Int32)), .val (.ref b2), .val (.long (-1 : Int64)), .second, .val (.int (1 : Int32)), .unset, .unset] [])
    refine Goes.go (fun _ => XS.aload S.here B.x rfl (B.d at_89) rfl rfl) ?_
    show Goes _ _ _ _ T (mkF m 91 #[.val (.long q0), .second, .val (.long q1), .second, .val (.long q2), .second, .val (.int p3), .val (.int (0 : Int32)), .val (.ref b2), .val (.long (-1 : Int64)), .second, .val (.int (1 : Int32)), .unset, .unset] [(.ref b2)])
    refine Goes.go (fun _ => XS.lload S.here B.x rfl (B.d at_91) rfl) ?_
    show Goes _ _ _ _ T (mkF m 93 #[.val (.long q0), .second, .val (.long q1), .second, .val (.long q2), .second, .val (.int p3), .val (.int (0 : Int32)), .val (.ref b2), .val (.long (-1 : Int64)), .second, .val (.int (1 : Int32)), .unset, .unset] [(.long (-1 : Int64)), (.ref b2)])
    refine Goes.callV (argsL := [(.long (-1 : Int64))]) (rest := []) (W := 0) S B (rm_awaits l Z aw hw b2 (-1 : Int64) (-1 : Int64) _ n0 F_b2_lastNotice) E_b2 (w27 hw) (w28 hw) (w30 hw) (w29 hw) (w2 hw) (w31 hw) (by decide) (by decide) (by decide) (by decide) (by decide) rfl (lenOf pd_3 rfl) rfl (Nat.le_of_eq rfl) at_93 ?_
    intro v T h S hQ
    obtain ⟨rfl, hh⟩ := hQ
    replace hh := hh.symm
    subst hh
    show Goes _ _ _ _ T (mkF m 96 #[.val (.long q0), .second, .val (.long q1), .second, .val (.long q2), .second, .val (.int p3), .val (.int (0 : Int32)), .val (.ref b2), .val (.long (-1 : Int64)), .second, .val (.int (1 : Int32)), .unset, .unset] [(.int (bi (¬ (-1 : Int64) < (-1 : Int64))))])
    refine Goes.go (fun _ => XS.istore S.here B.x rfl (B.d at_96) rfl (l' := #[.val (.long q0), .second, .val (.long q1), .second, .val (.long q2), .second, .val (.int p3), .val (.int (0 : Int32)), .val (.ref b2), .val (.long (-1 : Int64)), .second, .val (.int (1 : Int32)), .val (.int (bi (¬ (-1 : Int64) < (-1 : Int64)))), .unset]) rfl) ?_
    show Goes _ _ _ _ T (mkF m 98 #[.val (.long q0), .second, .val (.long q1), .second, .val (.long q2), .second, .val (.int p3), .val (.int (0 : Int32)), .val (.ref b2), .val (.long (-1 : Int64)), .second, .val (.int (1 : Int32)), .val (.int (bi (¬ (-1 : Int64) < (-1 : Int64)))), .unset] [])
    refine Goes.go (fun _ => XS.lload S.here B.x rfl (B.d at_98) rfl) ?_
    show Goes _ _ _ _ T (mkF m 100 #[.val (.long q0), .second, .val (.long q1), .second, .val (.long q2), .second, .val (.int p3), .val (.int (0 : Int32)), .val (.ref b2), .val (.long (-1 : Int64)), .second, .val (.int (1 : Int32)), .val (.int (bi (¬ (-1 : Int64) < (-1 : Int64)))), .unset] [(.long (-1 : Int64))])
    refine Goes.ldcL S B (w32 hw) at_100 ?_
    show Goes _ _ _ _ T (mkF m 103 #[.val (.long q0), .second, .val (.long q1), .second, .val (.long q2), .second, .val (.int p3), .val (.int (0 : Int32)), .val (.ref b2), .val (.long (-1 : Int64)), .second, .val (.int (1 : Int32)), .val (.int (bi (¬ (-1 : Int64) < (-1 : Int64)))), .unset] [(.long (9223372036854775807 : Int64)), (.long (-1 : Int64))])
    refine Goes.go (fun _ => XS.lcmp S.here B.x rfl (B.d at_103) rfl) ?_
    show Goes _ _ _ _ T (mkF m 104 #[.val (.long q0), .second, .val (.long q1), .second, .val (.long q2), .second, .val (.int p3), .val (.int (0 : Int32)), .val (.ref b2), .val (.long (-1 : Int64)), .second, .val (.int (1 : Int32)), .val (.int (bi (¬ (-1 : Int64) < (-1 : Int64)))), .unset] [(.int (lcmpW (-1 : Int64) (9223372036854775807 : Int64)))])
    by_cases hc104 : (-1 : Int64) = (9223372036854775807 : Int64)
    · skip
      refine Goes.go (fun _ => XS.ifYes S.here B.x rfl (pc0 := 104) (pc' := 119) rfl (B.d at_104) rfl ((if0 _ _).trans (teq ((lw_eq (-1 : Int64) (9223372036854775807 : Int64)).mpr hc104)).1) (by decide) (by decide)) ?_
      show Goes _ _ _ _ T (mkF m 119 #[.val (.long q0), .second, .val (.long q1), .second, .val (.long q2), .second, .val (.int p3), .val (.int (0 : Int32)), .val (.ref b2), .val (.long (-1 : Int64)), .second, .val (.int (1 : Int32)), .val (.int (bi (¬ (-1 : Int64) < (-1 : Int64)))), .unset] [])
      refine Goes.go (fun _ => XS.iconst S.here B.x rfl (B.d at_119)) ?_
      show Goes _ _ _ _ T (mkF m 120 #[.val (.long q0), .second, .val (.long q1), .second, .val (.long q2), .second, .val (.int p3), .val (.int (0 : Int32)), .val (.ref b2), .val (.long (-1 : Int64)), .second, .val (.int (1 : Int32)), .val (.int (bi (¬ (-1 : Int64) < (-1 : Int64)))), .unset] [(.int (1 : Int32))])
      refine Goes.go (fun _ => XS.goto S.here B.x rfl (pc0 := 120) (pc' := 124) rfl (B.d at_120) (by decide) (by decide)) ?_
      show Goes _ _ _ _ T (mkF m 124 #[.val (.long q0), .second, .val (.long q1), .second, .val (.long q2), .second, .val (.int p3), .val (.int (0 : Int32)), .val (.ref b2), .val (.long (-1 : Int64)), .second, .val (.int (1 : Int32)), .val (.int (bi (¬ (-1 : Int64) < (-1 : Int64)))), .unset] [(.int (1 : Int32))])
      refine Goes.go (fun _ => XS.istore S.here B.x rfl (B.d at_124) rfl (l' := #[.val (.long q0), .second, .val (.long q1), .second, .val (.long q2), .second, .val (.int p3), .val (.int (0 : Int32)), .val (.ref b2), .val (.long (-1 : Int64)), .second, .val (.int (1 : Int32)), .val (.int (bi (¬ (-1 : Int64) < (-1 : Int64)))), .val (.int (1 : Int32))]) rfl) ?_
      show Goes _ _ _ _ T (mkF m 126 #[.val (.long q0), .second, .val (.long q1), .second, .val (.long q2), .second, .val (.int p3), .val (.int (0 : Int32)), .val (.ref b2), .val (.long (-1 : Int64)), .second, .val (.int (1 : Int32)), .val (.int (bi (¬ (-1 : Int64) < (-1 : Int64)))), .val (.int (1 : Int32))] [])
      refine Goes.go (fun _ => XS.iload S.here B.x rfl (B.d at_126) rfl) ?_
      show Goes _ _ _ _ T (mkF m 128 #[.val (.long q0), .second, .val (.long q1), .second, .val (.long q2), .second, .val (.int p3), .val (.int (0 : Int32)), .val (.ref b2), .val (.long (-1 : Int64)), .second, .val (.int (1 : Int32)), .val (.int (bi (¬ (-1 : Int64) < (-1 : Int64)))), .val (.int (1 : Int32))] [(.int (1 : Int32))])
      refine Goes.go (fun _ => XS.ifNo S.here B.x rfl (B.d at_128) rfl (by decide)) ?_
      show Goes _ _ _ _ T (mkF m 131 #[.val (.long q0), .second, .val (.long q1), .second, .val (.long q2), .second, .val (.int p3), .val (.int (0 : Int32)), .val (.ref b2), .val (.long (-1 : Int64)), .second, .val (.int (1 : Int32)), .val (.int (bi (¬ (-1 : Int64) < (-1 : Int64)))), .val (.int (1 : Int32))] [])
      refine Goes.go (fun _ => XS.iload S.here B.x rfl (B.d at_131) rfl) ?_
      show Goes _ _ _ _ T (mkF m 133 #[.val (.long q0), .second, .val (.long q1), .second, .val (.long q2), .second, .val (.int p3), .val (.int (0 : Int32)), .val (.ref b2), .val (.long (-1 : Int64)), .second, .val (.int (1 : Int32)), .val (.int (bi (¬ (-1 : Int64) < (-1 : Int64)))), .val (.int (1 : Int32))] [(.int (bi (¬ (-1 : Int64) < (-1 : Int64))))])
      refine Goes.go (fun _ => XS.ifNo S.here B.x rfl (B.d at_133) rfl ((if0 _ _).trans (feq (bi_ne (show ¬ (-1 : Int64) < (-1 : Int64) from fun q => own_irr _ q))).1)) ?_
      show Goes _ _ _ _ T (mkF m 136 #[.val (.long q0), .second, .val (.long q1), .second, .val (.long q2), .second, .val (.int p3), .val (.int (0 : Int32)), .val (.ref b2), .val (.long (-1 : Int64)), .second, .val (.int (1 : Int32)), .val (.int (bi (¬ (-1 : Int64) < (-1 : Int64)))), .val (.int (1 : Int32))] [])
      refine Goes.go (fun _ => XS.iload S.here B.x rfl (B.d at_136) rfl) ?_
      show Goes _ _ _ _ T (mkF m 138 #[.val (.long q0), .second, .val (.long q1), .second, .val (.long q2), .second, .val (.int p3), .val (.int (0 : Int32)), .val (.ref b2), .val (.long (-1 : Int64)), .second, .val (.int (1 : Int32)), .val (.int (bi (¬ (-1 : Int64) < (-1 : Int64)))), .val (.int (1 : Int32))] [(.int (1 : Int32))])
      refine Goes.go (fun _ => XS.ifNo S.here B.x rfl (B.d at_138) rfl (by decide)) ?_
      show Goes _ _ _ _ T (mkF m 141 #[.val (.long q0), .second, .val (.long q1), .second, .val (.long q2), .second, .val (.int p3), .val (.int (0 : Int32)), .val (.ref b2), .val (.long (-1 : Int64)), .second, .val (.int (1 : Int32)), .val (.int (bi (¬ (-1 : Int64) < (-1 : Int64)))), .val (.int (1 : Int32))] [])
      refine Goes.go (fun _ => XS.iconst S.here B.x rfl (B.d at_141)) ?_
      show Goes _ _ _ _ T (mkF m 142 #[.val (.long q0), .second, .val (.long q1), .second, .val (.long q2), .second, .val (.int p3), .val (.int (0 : Int32)), .val (.ref b2), .val (.long (-1 : Int64)), .second, .val (.int (1 : Int32)), .val (.int (bi (¬ (-1 : Int64) < (-1 : Int64)))), .val (.int (1 : Int32))] [(.int (1 : Int32))])
      refine Goes.go (fun _ => XS.goto S.here B.x rfl (pc0 := 142) (pc' := 146) rfl (B.d at_142) (by decide) (by decide)) ?_
      show Goes _ _ _ _ T (mkF m 146 #[.val (.long q0), .second, .val (.long q1), .second, .val (.long q2), .second, .val (.int p3), .val (.int (0 : Int32)), .val (.ref b2), .val (.long (-1 : Int64)), .second, .val (.int (1 : Int32)), .val (.int (bi (¬ (-1 : Int64) < (-1 : Int64)))), .val (.int (1 : Int32))] [(.int (1 : Int32))])
      refine Goes.retN S B (by simp) at_146 (by decide) (by decide) ?_
      exact rfl
    · skip
      refine Goes.go (fun _ => XS.ifNo S.here B.x rfl (B.d at_104) rfl ((if0 _ _).trans (feq (mt (lw_eq (-1 : Int64) (9223372036854775807 : Int64)).mp hc104)).1)) ?_
      show Goes _ _ _ _ T (mkF m 107 #[.val (.long q0), .second, .val (.long q1), .second, .val (.long q2), .second, .val (.int p3), .val (.int (0 : Int32)), .val (.ref b2), .val (.long (-1 : Int64)), .second, .val (.int (1 : Int32)), .val (.int (bi (¬ (-1 : Int64) < (-1 : Int64)))), .unset] [])
      refine Goes.go (fun _ => XS.aload S.here B.x rfl (B.d at_107) rfl rfl) ?_
      show Goes _ _ _ _ T (mkF m 109 #[.val (.long q0), .second, .val (.long q1), .second, .val (.long q2), .second, .val (.int p3), .val (.int (0 : Int32)), .val (.ref b2), .val (.long (-1 : Int64)), .second, .val (.int (1 : Int32)), .val (.int (bi (¬ (-1 : Int64) < (-1 : Int64)))), .unset] [(.ref b2)])
      refine Goes.go (fun _ => XS.lload S.here B.x rfl (B.d at_109) rfl) ?_
      show Goes _ _ _ _ T (mkF m 111 #[.val (.long q0), .second, .val (.long q1), .second, .val (.long q2), .second, .val (.int p3), .val (.int (0 : Int32)), .val (.ref b2), .val (.long (-1 : Int64)), .second, .val (.int (1 : Int32)), .val (.int (bi (¬ (-1 : Int64) < (-1 : Int64)))), .unset] [(.long (-1 : Int64)), (.ref b2)])
      refine Goes.go (fun _ => XS.lconst S.here B.x rfl (B.d at_111)) ?_
      show Goes _ _ _ _ T (mkF m 112 #[.val (.long q0), .second, .val (.long q1), .second, .val (.long q2), .second, .val (.int p3), .val (.int (0 : Int32)), .val (.ref b2), .val (.long (-1 : Int64)), .second, .val (.int (1 : Int32)), .val (.int (bi (¬ (-1 : Int64) < (-1 : Int64)))), .unset] [(.long (1 : Int64)), (.long (-1 : Int64)), (.ref b2)])
      refine Goes.go (fun _ => XS.ladd S.here B.x rfl (B.d at_112) rfl) ?_
      show Goes _ _ _ _ T (mkF m 113 #[.val (.long q0), .second, .val (.long q1), .second, .val (.long q2), .second, .val (.int p3), .val (.int (0 : Int32)), .val (.ref b2), .val (.long (-1 : Int64)), .second, .val (.int (1 : Int32)), .val (.int (bi (¬ (-1 : Int64) < (-1 : Int64)))), .unset] [(.long (0 : Int64)), (.ref b2)])
      refine Goes.callV (argsL := [(.long (0 : Int64))]) (rest := []) (W := 0) S B (rm_awaits l Z aw hw b2 (0 : Int64) (-1 : Int64) _ n0 F_b2_lastNotice) E_b2 (w27 hw) (w28 hw) (w30 hw) (w29 hw) (w2 hw) (w31 hw) (by decide) (by decide) (by decide) (by decide) (by decide) rfl (lenOf pd_3 rfl) rfl (Nat.le_of_eq rfl) at_113 ?_
      intro v T h S hQ
      obtain ⟨rfl, hh⟩ := hQ
      replace hh := hh.symm
      subst hh
      show Goes _ _ _ _ T (mkF m 116 #[.val (.long q0), .second, .val (.long q1), .second, .val (.long q2), .second, .val (.int p3), .val (.int (0 : Int32)), .val (.ref b2), .val (.long (-1 : Int64)), .second, .val (.int (1 : Int32)), .val (.int (bi (¬ (-1 : Int64) < (-1 : Int64)))), .unset] [(.int (bi (¬ (-1 : Int64) < (0 : Int64))))])
      refine Goes.go (fun _ => XS.ifNo S.here B.x rfl (B.d at_116) rfl ((if0 _ _).trans (teq (bi_neg (show ¬ (¬ (-1 : Int64) < (0 : Int64)) from fun q => q (own_up (-1 : Int64) hc104)))).2)) ?_
      show Goes _ _ _ _ T (mkF m 119 #[.val (.long q0), .second, .val (.long q1), .second, .val (.long q2), .second, .val (.int p3), .val (.int (0 : Int32)), .val (.ref b2), .val (.long (-1 : Int64)), .second, .val (.int (1 : Int32)), .val (.int (bi (¬ (-1 : Int64) < (-1 : Int64)))), .unset] [])
      refine Goes.go (fun _ => XS.iconst S.here B.x rfl (B.d at_119)) ?_
      show Goes _ _ _ _ T (mkF m 120 #[.val (.long q0), .second, .val (.long q1), .second, .val (.long q2), .second, .val (.int p3), .val (.int (0 : Int32)), .val (.ref b2), .val (.long (-1 : Int64)), .second, .val (.int (1 : Int32)), .val (.int (bi (¬ (-1 : Int64) < (-1 : Int64)))), .unset] [(.int (1 : Int32))])
      refine Goes.go (fun _ => XS.goto S.here B.x rfl (pc0 := 120) (pc' := 124) rfl (B.d at_120) (by decide) (by decide)) ?_
      show Goes _ _ _ _ T (mkF m 124 #[.val (.long q0), .second, .val (.long q1), .second, .val (.long q2), .second, .val (.int p3), .val (.int (0 : Int32)), .val (.ref b2), .val (.long (-1 : Int64)), .second, .val (.int (1 : Int32)), .val (.int (bi (¬ (-1 : Int64) < (-1 : Int64)))), .unset] [(.int (1 : Int32))])
      refine Goes.go (fun _ => XS.istore S.here B.x rfl (B.d at_124) rfl (l' := #[.val (.long q0), .second, .val (.long q1), .second, .val (.long q2), .second, .val (.int p3), .val (.int (0 : Int32)), .val (.ref b2), .val (.long (-1 : Int64)), .second, .val (.int (1 : Int32)), .val (.int (bi (¬ (-1 : Int64) < (-1 : Int64)))), .val (.int (1 : Int32))]) rfl) ?_
      show Goes _ _ _ _ T (mkF m 126 #[.val (.long q0), .second, .val (.long q1), .second, .val (.long q2), .second, .val (.int p3), .val (.int (0 : Int32)), .val (.ref b2), .val (.long (-1 : Int64)), .second, .val (.int (1 : Int32)), .val (.int (bi (¬ (-1 : Int64) < (-1 : Int64)))), .val (.int (1 : Int32))] [])
      refine Goes.go (fun _ => XS.iload S.here B.x rfl (B.d at_126) rfl) ?_
      show Goes _ _ _ _ T (mkF m 128 #[.val (.long q0), .second, .val (.long q1), .second, .val (.long q2), .second, .val (.int p3), .val (.int (0 : Int32)), .val (.ref b2), .val (.long (-1 : Int64)), .second, .val (.int (1 : Int32)), .val (.int (bi (¬ (-1 : Int64) < (-1 : Int64)))), .val (.int (1 : Int32))] [(.int (1 : Int32))])
      refine Goes.go (fun _ => XS.ifNo S.here B.x rfl (B.d at_128) rfl (by decide)) ?_
      show Goes _ _ _ _ T (mkF m 131 #[.val (.long q0), .second, .val (.long q1), .second, .val (.long q2), .second, .val (.int p3), .val (.int (0 : Int32)), .val (.ref b2), .val (.long (-1 : Int64)), .second, .val (.int (1 : Int32)), .val (.int (bi (¬ (-1 : Int64) < (-1 : Int64)))), .val (.int (1 : Int32))] [])
      refine Goes.go (fun _ => XS.iload S.here B.x rfl (B.d at_131) rfl) ?_
      show Goes _ _ _ _ T (mkF m 133 #[.val (.long q0), .second, .val (.long q1), .second, .val (.long q2), .second, .val (.int p3), .val (.int (0 : Int32)), .val (.ref b2), .val (.long (-1 : Int64)), .second, .val (.int (1 : Int32)), .val (.int (bi (¬ (-1 : Int64) < (-1 : Int64)))), .val (.int (1 : Int32))] [(.int (bi (¬ (-1 : Int64) < (-1 : Int64))))])
      refine Goes.go (fun _ => XS.ifNo S.here B.x rfl (B.d at_133) rfl ((if0 _ _).trans (feq (bi_ne (show ¬ (-1 : Int64) < (-1 : Int64) from fun q => own_irr _ q))).1)) ?_
      show Goes _ _ _ _ T (mkF m 136 #[.val (.long q0), .second, .val (.long q1), .second, .val (.long q2), .second, .val (.int p3), .val (.int (0 : Int32)), .val (.ref b2), .val (.long (-1 : Int64)), .second, .val (.int (1 : Int32)), .val (.int (bi (¬ (-1 : Int64) < (-1 : Int64)))), .val (.int (1 : Int32))] [])
      refine Goes.go (fun _ => XS.iload S.here B.x rfl (B.d at_136) rfl) ?_
      show Goes _ _ _ _ T (mkF m 138 #[.val (.long q0), .second, .val (.long q1), .second, .val (.long q2), .second, .val (.int p3), .val (.int (0 : Int32)), .val (.ref b2), .val (.long (-1 : Int64)), .second, .val (.int (1 : Int32)), .val (.int (bi (¬ (-1 : Int64) < (-1 : Int64)))), .val (.int (1 : Int32))] [(.int (1 : Int32))])
      refine Goes.go (fun _ => XS.ifNo S.here B.x rfl (B.d at_138) rfl (by decide)) ?_
      show Goes _ _ _ _ T (mkF m 141 #[.val (.long q0), .second, .val (.long q1), .second, .val (.long q2), .second, .val (.int p3), .val (.int (0 : Int32)), .val (.ref b2), .val (.long (-1 : Int64)), .second, .val (.int (1 : Int32)), .val (.int (bi (¬ (-1 : Int64) < (-1 : Int64)))), .val (.int (1 : Int32))] [])
      refine Goes.go (fun _ => XS.iconst S.here B.x rfl (B.d at_141)) ?_
      show Goes _ _ _ _ T (mkF m 142 #[.val (.long q0), .second, .val (.long q1), .second, .val (.long q2), .second, .val (.int p3), .val (.int (0 : Int32)), .val (.ref b2), .val (.long (-1 : Int64)), .second, .val (.int (1 : Int32)), .val (.int (bi (¬ (-1 : Int64) < (-1 : Int64)))), .val (.int (1 : Int32))] [(.int (1 : Int32))])
      refine Goes.go (fun _ => XS.goto S.here B.x rfl (pc0 := 142) (pc' := 146) rfl (B.d at_142) (by decide) (by decide)) ?_
      show Goes _ _ _ _ T (mkF m 146 #[.val (.long q0), .second, .val (.long q1), .second, .val (.long q2), .second, .val (.int p3), .val (.int (0 : Int32)), .val (.ref b2), .val (.long (-1 : Int64)), .second, .val (.int (1 : Int32)), .val (.int (bi (¬ (-1 : Int64) < (-1 : Int64)))), .val (.int (1 : Int32))] [(.int (1 : Int32))])
      refine Goes.retN S B (by simp) at_146 (by decide) (by decide) ?_
      exact rfl
  · skip
    show Goes _ _ _ _ T (mkF m 6 #[.val (.long q0), .second, .val (.long q1), .second, .val (.long q2), .second, .val (.int p3), .val (.int (1 : Int32)), .unset, .unset, .unset, .unset, .unset, .unset] [])
    refine Goes.go (fun _ => XS.iload S.here B.x rfl (B.d at_6) rfl) ?_
    show Goes _ _ _ _ T (mkF m 8 #[.val (.long q0), .second, .val (.long q1), .second, .val (.long q2), .second, .val (.int p3), .val (.int (1 : Int32)), .unset, .unset, .unset, .unset, .unset, .unset] [(.int (1 : Int32))])
    refine Goes.go (fun _ => XS.iconst S.here B.x rfl (B.d at_8)) ?_
    show Goes _ _ _ _ T (mkF m 9 #[.val (.long q0), .second, .val (.long q1), .second, .val (.long q2), .second, .val (.int p3), .val (.int (1 : Int32)), .unset, .unset, .unset, .unset, .unset, .unset] [(.int (3 : Int32)), (.int (1 : Int32))])
    refine Goes.go (fun _ => XS.icmpYes S.here B.x rfl (pc0 := 9) (pc' := 15) rfl (B.d at_9) rfl (by decide) (by decide) (by decide)) ?_
    show Goes _ _ _ _ T (mkF m 15 #[.val (.long q0), .second, .val (.long q1), .second, .val (.long q2), .second, .val (.int p3), .val (.int (1 : Int32)), .unset, .unset, .unset, .unset, .unset, .unset] [])
    refine Goes.newO S B (w0 hw) (w1 hw) (w2 hw) at_15 (by decide) (by decide) ?_
    intro T h b3 S X zb g_b3 E_b3 D
    have F_b3_lastNotice : Fld Z h b3 "com/example/cormorant/cormorant/sim/Channel" "lastNotice" "J" (.long (0 : Int64)) := D (Or.inl (w11 hw)) (ty := .long) (by decide)
    show Goes _ _ _ _ T (mkF m 18 #[.val (.long q0), .second, .val (.long q1), .second, .val (.long q2), .second, .val (.int p3), .val (.int (1 : Int32)), .unset, .unset, .unset, .unset, .unset, .unset] [(.ref b3)])
    refine Goes.go (fun _ => XS.dup S.here B.x rfl (B.d at_18) rfl rfl) ?_
    show Goes _ _ _ _ T (mkF m 19 #[.val (.long q0), .second, .val (.long q1), .second, .val (.long q2), .second, .val (.int p3), .val (.int (1 : Int32)), .unset, .unset, .unset, .unset, .unset, .unset] [(.ref b3), (.ref b3)])
    refine Goes.callI (argsL := []) (rest := [(.ref b3)]) (W := 1) S B (rmI l Z aw hw b3 _ n0 E_b3 F_b3_lastNotice g_b3) (w3 hw) (w4 hw) (w2 hw) (w5 hw) (by decide) rfl (by decide) (by decide) (by decide) (by decide) rfl (lenOf pd_1 rfl) rfl (Nat.le_of_eq rfl) at_19 ?_
    intro v T h S hQ
    obtain ⟨rfl, Kc, E_b3', F_b3_lastNotice'⟩ := hQ
    replace E_b3 := E_b3'
    replace F_b3_lastNotice := F_b3_lastNotice'
    show Goes _ _ _ _ T (mkF m 22 #[.val (.long q0), .second, .val (.long q1), .second, .val (.long q2), .second, .val (.int p3), .val (.int (1 : Int32)), .unset, .unset, .unset, .unset, .unset, .unset] [(.ref b3)])
    refine Goes.go (fun _ => XS.astore S.here B.x rfl (B.d at_22) rfl rfl (l' := #[.val (.long q0), .second, .val (.long q1), .second, .val (.long q2), .second, .val (.int p3), .val (.int (1 : Int32)), .val (.ref b3), .unset, .unset, .unset, .unset, .unset]) rfl) ?_
    show Goes _ _ _ _ T (mkF m 24 #[.val (.long q0), .second, .val (.long q1), .second, .val (.long q2), .second, .val (.int p3), .val (.int (1 : Int32)), .val (.ref b3), .unset, .unset, .unset, .unset, .unset] [])
    refine Goes.go (fun _ => XS.iload S.here B.x rfl (B.d at_24) rfl) ?_
    show Goes _ _ _ _ T (mkF m 26 #[.val (.long q0), .second, .val (.long q1), .second, .val (.long q2), .second, .val (.int p3), .val (.int (1 : Int32)), .val (.ref b3), .unset, .unset, .unset, .unset, .unset] [(.int (1 : Int32))])
    refine Goes.go (fun _ => XS.iconst S.here B.x rfl (B.d at_26)) ?_
    show Goes _ _ _ _ T (mkF m 27 #[.val (.long q0), .second, .val (.long q1), .second, .val (.long q2), .second, .val (.int p3), .val (.int (1 : Int32)), .val (.ref b3), .unset, .unset, .unset, .unset, .unset] [(.int (1 : Int32)), (.int (1 : Int32))])
    refine Goes.go (fun _ => XS.icmpNo S.here B.x rfl (B.d at_27) rfl (by decide)) ?_
    show Goes _ _ _ _ T (mkF m 30 #[.val (.long q0), .second, .val (.long q1), .second, .val (.long q2), .second, .val (.int p3), .val (.int (1 : Int32)), .val (.ref b3), .unset, .unset, .unset, .unset, .unset] [])
    refine Goes.go (fun _ => XS.aload S.here B.x rfl (B.d at_30) rfl rfl) ?_
    show Goes _ _ _ _ T (mkF m 32 #[.val (.long q0), .second, .val (.long q1), .second, .val (.long q2), .second, .val (.int p3), .val (.int (1 : Int32)), .val (.ref b3), .unset, .unset, .unset, .unset, .unset] [(.ref b3)])
    refine Goes.go (fun _ => XS.lloadN S.here B.x rfl (B.d at_32) rfl) ?_
    show Goes _ _ _ _ T (mkF m 33 #[.val (.long q0), .second, .val (.long q1), .second, .val (.long q2), .second, .val (.int p3), .val (.int (1 : Int32)), .val (.ref b3), .unset, .unset, .unset, .unset, .unset] [(.long q0), (.ref b3)])
    refine Goes.callV (argsL := [(.long q0)]) (rest := []) (W := 0) S B (rm_notice l Z aw hw b3 q0 (-1 : Int64) _ n0 E_b3 F_b3_lastNotice g_b3) E_b3 (w12 hw) (w13 hw) (w15 hw) (w14 hw) (w2 hw) (w16 hw) (by decide) (by decide) (by decide) (by decide) (by decide) rfl (lenOf pd_4 rfl) rfl (Nat.le_of_eq rfl) at_33 ?_
    intro v T h S hQ
    obtain ⟨rfl, Kc, E_b3', F_b3_lastNotice'⟩ := hQ
    replace E_b3 := E_b3'
    replace F_b3_lastNotice := F_b3_lastNotice'
    show Goes _ _ _ _ T (mkF m 36 #[.val (.long q0), .second, .val (.long q1), .second, .val (.long q2), .second, .val (.int p3), .val (.int (1 : Int32)), .val (.ref b3), .unset, .unset, .unset, .unset, .unset] [(.long (own_max (-1 : Int64) q0))])
    refine Goes.pop2L S B at_36 ?_
    show Goes _ _ _ _ T (mkF m 37 #[.val (.long q0), .second, .val (.long q1), .second, .val (.long q2), .second, .val (.int p3), .val (.int (1 : Int32)), .val (.ref b3), .unset, .unset, .unset, .unset, .unset] [])
    refine Goes.go (fun _ => XS.iload S.here B.x rfl (B.d at_37) rfl) ?_
    show Goes _ _ _ _ T (mkF m 39 #[.val (.long q0), .second, .val (.long q1), .second, .val (.long q2), .second, .val (.int p3), .val (.int (1 : Int32)), .val (.ref b3), .unset, .unset, .unset, .unset, .unset] [(.int (1 : Int32))])
    refine Goes.go (fun _ => XS.iconst S.here B.x rfl (B.d at_39)) ?_
    show Goes _ _ _ _ T (mkF m 40 #[.val (.long q0), .second, .val (.long q1), .second, .val (.long q2), .second, .val (.int p3), .val (.int (1 : Int32)), .val (.ref b3), .unset, .unset, .unset, .unset, .unset] [(.int (2 : Int32)), (.int (1 : Int32))])
    refine Goes.go (fun _ => XS.icmpYes S.here B.x rfl (pc0 := 40) (pc' := 50) rfl (B.d at_40) rfl (by decide) (by decide) (by decide)) ?_
    show Goes _ _ _ _ T (mkF m 50 #[.val (.long q0), .second, .val (.long q1), .second, .val (.long q2), .second, .val (.int p3), .val (.int (1 : Int32)), .val (.ref b3), .unset, .unset, .unset, .unset, .unset] [])
    refine Goes.go (fun _ => XS.iload S.here B.x rfl (B.d at_50) rfl) ?_
    show Goes _ _ _ _ T (mkF m 52 #[.val (.long q0), .second, .val (.long q1), .second, .val (.long q2), .second, .val (.int p3), .val (.int (1 : Int32)), .val (.ref b3), .unset, .unset, .unset, .unset, .unset] [(.int (1 : Int32))])
    refine Goes.go (fun _ => XS.lloadN S.here B.x rfl (B.d at_52) rfl) ?_
    show Goes _ _ _ _ T (mkF m 53 #[.val (.long q0), .second, .val (.long q1), .second, .val (.long q2), .second, .val (.int p3), .val (.int (1 : Int32)), .val (.ref b3), .unset, .unset, .unset, .unset, .unset] [(.long q0), (.int (1 : Int32))])
    refine Goes.go (fun _ => XS.lloadN S.here B.x rfl (B.d at_53) rfl) ?_
    show Goes _ _ _ _ T (mkF m 54 #[.val (.long q0), .second, .val (.long q1), .second, .val (.long q2), .second, .val (.int p3), .val (.int (1 : Int32)), .val (.ref b3), .unset, .unset, .unset, .unset, .unset] [(.long q1), (.long q0), (.int (1 : Int32))])
    refine Goes.callS (argsL := [(.int (1 : Int32)), (.long q0), (.long q1)]) (rest := []) (W := 0) S B (rm_latest l Z aw hw (1 : Int32) q0 q1 _ n0) (w21 hw) (w22 hw) (w23 hw) (w24 hw) (by decide) (by decide) (by decide) (by decide) (by decide) rfl (lenOf pd_2 rfl) rfl (Nat.le_of_eq rfl) at_54 ?_
    intro v T h S hQ
    obtain ⟨rfl, hh⟩ := hQ
    replace hh := hh.symm
    subst hh
    show Goes _ _ _ _ T (mkF m 57 #[.val (.long q0), .second, .val (.long q1), .second, .val (.long q2), .second, .val (.int p3), .val (.int (1 : Int32)), .val (.ref b3), .unset, .unset, .unset, .unset, .unset] [(.long (own_latest (1 : Int32) q0 q1))])
    rw [show (own_latest (1 : Int32) q0 q1) = (own_max (-1 : Int64) q0) from own_l1 _ _]
    show Goes _ _ _ _ T (mkF m 57 #[.val (.long q0), .second, .val (.long q1), .second, .val (.long q2), .second, .val (.int p3), .val (.int (1 : Int32)), .val (.ref b3), .unset, .unset, .unset, .unset, .unset] [(.long (own_max (-1 : Int64) q0))])
    generalize (own_max (-1 : Int64) q0) = ee at *
    show Goes _ _ _ _ T (mkF m 57 #[.val (.long q0), .second, .val (.long q1), .second, .val (.long q2), .second, .val (.int p3), .val (.int (1 : Int32)), .val (.ref b3), .unset, .unset, .unset, .unset, .unset] [(.long ee)])
    refine Goes.go (fun _ => XS.lstore S.here B.x rfl (B.d at_57) rfl (l' := #[.val (.long q0), .second, .val (.long q1), .second, .val (.long q2), .second, .val (.int p3), .val (.int (1 : Int32)), .val (.ref b3), .val (.long ee), .second, .unset, .unset, .unset]) rfl) ?_
    show Goes _ _ _ _ T (mkF m 59 #[.val (.long q0), .second, .val (.long q1), .second, .val (.long q2), .second, .val (.int p3), .val (.int (1 : Int32)), .val (.ref b3), .val (.long ee), .second, .unset, .unset, .unset] [])
    refine Goes.go (fun _ => XS.aload S.here B.x rfl (B.d at_59) rfl rfl) ?_
    show Goes _ _ _ _ T (mkF m 61 #[.val (.long q0), .second, .val (.long q1), .second, .val (.long q2), .second, .val (.int p3), .val (.int (1 : Int32)), .val (.ref b3), .val (.long ee), .second, .unset, .unset, .unset] [(.ref b3)])
    refine Goes.go (fun _ => XS.lload S.here B.x rfl (B.d at_61) rfl) ?_
    show Goes _ _ _ _ T (mkF m 63 #[.val (.long q0), .second, .val (.long q1), .second, .val (.long q2), .second, .val (.int p3), .val (.int (1 : Int32)), .val (.ref b3), .val (.long ee), .second, .unset, .unset, .unset] [(.long q2), (.ref b3)])
    refine Goes.callV (argsL := [(.long q2)]) (rest := []) (W := 0) S B (rm_awaits l Z aw hw b3 q2 ee _ n0 F_b3_lastNotice) E_b3 (w27 hw) (w28 hw) (w30 hw) (w29 hw) (w2 hw) (w31 hw) (by decide) (by decide) (by decide) (by decide) (by decide) rfl (lenOf pd_3 rfl) rfl (Nat.le_of_eq rfl) at_63 ?_
    intro v T h S hQ
    obtain ⟨rfl, hh⟩ := hQ
    replace hh := hh.symm
    subst hh
    show Goes _ _ _ _ T (mkF m 66 #[.val (.long q0), .second, .val (.long q1), .second, .val (.long q2), .second, .val (.int p3), .val (.int (1 : Int32)), .val (.ref b3), .val (.long ee), .second, .unset, .unset, .unset] [(.int (bi (¬ ee < q2)))])
    refine Goes.go (fun _ => XS.lload S.here B.x rfl (B.d at_66) rfl) ?_
    show Goes _ _ _ _ T (mkF m 68 #[.val (.long q0), .second, .val (.long q1), .second, .val (.long q2), .second, .val (.int p3), .val (.int (1 : Int32)), .val (.ref b3), .val (.long ee), .second, .unset, .unset, .unset] [(.long ee), (.int (bi (¬ ee < q2)))])
    refine Goes.go (fun _ => XS.lload S.here B.x rfl (B.d at_68) rfl) ?_
    show Goes _ _ _ _ T (mkF m 70 #[.val (.long q0), .second, .val (.long q1), .second, .val (.long q2), .second, .val (.int p3), .val (.int (1 : Int32)), .val (.ref b3), .val (.long ee), .second, .unset, .unset, .unset] [(.long q2), (.long ee), (.int (bi (¬ ee < q2)))])
    refine Goes.go (fun _ => XS.lcmp S.here B.x rfl (B.d at_70) rfl) ?_
    show Goes _ _ _ _ T (mkF m 71 #[.val (.long q0), .second, .val (.long q1), .second, .val (.long q2), .second, .val (.int p3), .val (.int (1 : Int32)), .val (.ref b3), .val (.long ee), .second, .unset, .unset, .unset] [(.int (lcmpW ee q2)), (.int (bi (¬ ee < q2)))])
    refine Goes.dia (P := ¬ (ee < q2)) (mk := fun z => (mkF m 79 #[.val (.long q0), .second, .val (.long q1), .second, .val (.long q2), .second, .val (.int p3), .val (.int (1 : Int32)), .val (.ref b3), .val (.long ee), .second, .unset, .unset, .unset] [(.int z), (.int (bi (¬ ee < q2)))])) (fun hc71 kk => ?_) (fun hc71 kk => ?_) ?_
    · skip
      refine Goes.go (fun _ => XS.ifNo S.here B.x rfl (B.d at_71) rfl ((if0 _ _).trans (flt (mt (lw_lt ee q2).mp hc71)).1)) ?_
      show Goes _ _ _ _ T (mkF m 74 #[.val (.long q0), .second, .val (.long q1), .second, .val (.long q2), .second, .val (.int p3), .val (.int (1 : Int32)), .val (.ref b3), .val (.long ee), .second, .unset, .unset, .unset] [(.int (bi (¬ ee < q2)))])
      refine Goes.go (fun _ => XS.iconst S.here B.x rfl (B.d at_74)) ?_
      show Goes _ _ _ _ T (mkF m 75 #[.val (.long q0), .second, .val (.long q1), .second, .val (.long q2), .second, .val (.int p3), .val (.int (1 : Int32)), .val (.ref b3), .val (.long ee), .second, .unset, .unset, .unset] [(.int (1 : Int32)), (.int (bi (¬ ee < q2)))])
      refine Goes.go (fun _ => XS.goto S.here B.x rfl (pc0 := 75) (pc' := 79) rfl (B.d at_75) (by decide) (by decide)) ?_
      show Goes _ _ _ _ T (mkF m 79 #[.val (.long q0), .second, .val (.long q1), .second, .val (.long q2), .second, .val (.int p3), .val (.int (1 : Int32)), .val (.ref b3), .val (.long ee), .second, .unset, .unset, .unset] [(.int (1 : Int32)), (.int (bi (¬ ee < q2)))])
      exact kk
    · skip
      refine Goes.go (fun _ => XS.ifYes S.here B.x rfl (pc0 := 71) (pc' := 78) rfl (B.d at_71) rfl ((if0 _ _).trans (tlt ((lw_lt ee q2).mpr (Classical.not_not.mp hc71))).1) (by decide) (by decide)) ?_
      show Goes _ _ _ _ T (mkF m 78 #[.val (.long q0), .second, .val (.long q1), .second, .val (.long q2), .second, .val (.int p3), .val (.int (1 : Int32)), .val (.ref b3), .val (.long ee), .second, .unset, .unset, .unset] [(.int (bi (¬ ee < q2)))])
      refine Goes.go (fun _ => XS.iconst S.here B.x rfl (B.d at_78)) ?_
      show Goes _ _ _ _ T (mkF m 79 #[.val (.long q0), .second, .val (.long q1), .second, .val (.long q2), .second, .val (.int p3), .val (.int (1 : Int32)), .val (.ref b3), .val (.long ee), .second, .unset, .unset, .unset] [(.int (0 : Int32)), (.int (bi (¬ ee < q2)))])
      exact kk
    show Goes _ _ _ _ T (mkF m 79 #[.val (.long q0), .second, .val (.long q1), .second, .val (.long q2), .second, .val (.int p3), .val (.int (1 : Int32)), .val (.ref b3), .val (.long ee), .second, .unset, .unset, .unset] [(.int (bi (¬ (ee < q2)))), (.int (bi (¬ ee < q2)))])
    refine Goes.go (fun _ => XS.icmpNo S.here B.x rfl (B.d at_79) rfl (teq (show (bi (¬ ee < q2)) = (bi (¬ (ee < q2))) from rfl)).2) ?_
    show Goes _ _ _ _ T (mkF m 82 #[.val (.long q0), .second, .val (.long q1), .second, .val (.long q2), .second, .val (.int p3), .val (.int (1 : Int32)), .val (.ref b3), .val (.long ee), .second, .unset, .unset, .unset] [])
    refine Goes.go (fun _ => XS.iconst S.here B.x rfl (B.d at_82)) ?_
    show Goes _ _ _ _ T (mkF m 83 #[.val (.long q0), .second, .val (.long q1), .second, .val (.long q2), .second, .val (.int p3), .val (.int (1 : Int32)), .val (.ref b3), .val (.long ee), .second, .unset, .unset, .unset] [(.int (1 : Int32))])
    refine Goes.go (fun _ => XS.goto S.here B.x rfl (pc0 := 83) (pc' := 87) rfl (B.d at_83) (by decide) (by decide)) ?_
    show Goes _ _ _ _ T (mkF m 87 #[.val (.long q0), .second, .val (.long q1), .second, .val (.long q2), .second, .val (.int p3), .val (.int (1 : Int32)), .val (.ref b3), .val (.long ee), .second, .unset, .unset, .unset] [(.int (1 : Int32))])
    refine Goes.go (fun _ => XS.istore S.here B.x rfl (B.d at_87) rfl (l' := #[.val (.long q0), .second, .val (.long q1), .second, .val (.long q2), .second, .val (.int p3), .val (.int (1 : Int32)), .val (.ref b3), .val (.long ee), .second, .val (.int (1 : Int32)), .unset, .unset]) rfl) ?_
    show Goes _ _ _ _ T (mkF m 89 #[.val (.long q0), .second, .val (.long q1), .second, .val (.long q2), .second, .val (.int p3), .val (.int (1 : Int32)), .val (.ref b3), .val (.long ee), .second, .val (.int (1 : Int32)), .unset, .unset] [])
    refine Goes.go (fun _ => XS.aload S.here B.x rfl (B.d at_89) rfl rfl) ?_
    show Goes _ _ _ _ T (mkF m 91 #[.val (.long q0), .second, .val (.long q1), .second, .val (.long q2), .second, .val (.int p3), .val (.int (1 : Int32)), .val (.ref b3), .val (.long ee), .second, .val (.int (1 : Int32)), .unset, .unset] [(.ref b3)])
    refine Goes.go (fun _ => XS.lload S.here B.x rfl (B.d at_91) rfl) ?_
    show Goes _ _ _ _ T (mkF m 93 #[.val (.long q0), .second, .val (.long q1), .second, .val (.long q2), .second, .val (.int p3), .val (.int (1 : Int32)), .val (.ref b3), .val (.long ee), .second, .val (.int (1 : Int32)), .unset, .unset] [(.long ee), (.ref b3)])
    refine Goes.callV (argsL := [(.long ee)]) (rest := []) (W := 0) S B (rm_awaits l Z aw hw b3 ee ee _ n0 F_b3_lastNotice) E_b3 (w27 hw) (w28 hw) (w30 hw) (w29 hw) (w2 hw) (w31 hw) (by decide) (by decide) (by decide) (by decide) (by decide) rfl (lenOf pd_3 rfl) rfl (Nat.le_of_eq rfl) at_93 ?_
    intro v T h S hQ
    obtain ⟨rfl, hh⟩ := hQ
    replace hh := hh.symm
    subst hh
    show Goes _ _ _ _ T (mkF m 96 #[.val (.long q0), .second, .val (.long q1), .second, .val (.long q2), .second, .val (.int p3), .val (.int (1 : Int32)), .val (.ref b3), .val (.long ee), .second, .val (.int (1 : Int32)), .unset, .unset] [(.int (bi (¬ ee < ee)))])
    refine Goes.go (fun _ => XS.istore S.here B.x rfl (B.d at_96) rfl (l' := #[.val (.long q0), .second, .val (.long q1), .second, .val (.long q2), .second, .val (.int p3), .val (.int (1 : Int32)), .val (.ref b3), .val (.long ee), .second, .val (.int (1 : Int32)), .val (.int (bi (¬ ee < ee))), .unset]) rfl) ?_
    show Goes _ _ _ _ T (mkF m 98 #[.val (.long q0), .second, .val (.long q1), .second, .val (.long q2), .second, .val (.int p3), .val (.int (1 : Int32)), .val (.ref b3), .val (.long ee), .second, .val (.int (1 : Int32)), .val (.int (bi (¬ ee < ee))), .unset] [])
    refine Goes.go (fun _ => XS.lload S.here B.x rfl (B.d at_98) rfl) ?_
    show Goes _ _ _ _ T (mkF m 100 #[.val (.long q0), .second, .val (.long q1), .second, .val (.long q2), .second, .val (.int p3), .val (.int (1 : Int32)), .val (.ref b3), .val (.long ee), .second, .val (.int (1 : Int32)), .val (.int (bi (¬ ee < ee))), .unset] [(.long ee)])
    refine Goes.ldcL S B (w32 hw) at_100 ?_
    show Goes _ _ _ _ T (mkF m 103 #[.val (.long q0), .second, .val (.long q1), .second, .val (.long q2), .second, .val (.int p3), .val (.int (1 : Int32)), .val (.ref b3), .val (.long ee), .second, .val (.int (1 : Int32)), .val (.int (bi (¬ ee < ee))), .unset] [(.long (9223372036854775807 : Int64)), (.long ee)])
    refine Goes.go (fun _ => XS.lcmp S.here B.x rfl (B.d at_103) rfl) ?_
    show Goes _ _ _ _ T (mkF m 104 #[.val (.long q0), .second, .val (.long q1), .second, .val (.long q2), .second, .val (.int p3), .val (.int (1 : Int32)), .val (.ref b3), .val (.long ee), .second, .val (.int (1 : Int32)), .val (.int (bi (¬ ee < ee))), .unset] [(.int (lcmpW ee (9223372036854775807 : Int64)))])
    by_cases hc104 : ee = (9223372036854775807 : Int64)
    · skip
      refine Goes.go (fun _ => XS.ifYes S.here B.x rfl (pc0 := 104) (pc' := 119) rfl (B.d at_104) rfl ((if0 _ _).trans (teq ((lw_eq ee (9223372036854775807 : Int64)).mpr hc104)).1) (by decide) (by decide)) ?_
      show Goes _ _ _ _ T (mkF m 119 #[.val (.long q0), .second, .val (.long q1), .second, .val (.long q2), .second, .val (.int p3), .val (.int (1 : Int32)), .val (.ref b3), .val (.long ee), .second, .val (.int (1 : Int32)), .val (.int (bi (¬ ee < ee))), .unset] [])
      refine Goes.go (fun _ => XS.iconst S.here B.x rfl (B.d at_119)) ?_
      show Goes _ _ _ _ T (mkF m 120 #[.val (.long q0), .second, .val (.long q1), .second, .val (.long q2), .second, .val (.int p3), .val (.int (1 : Int32)), .val (.ref b3), .val (.long ee), .second, .val (.int (1 : Int32)), .val (.int (bi (¬ ee < ee))), .unset] [(.int (1 : Int32))])
      refine Goes.go (fun _ => XS.goto S.here B.x rfl (pc0 := 120) (pc' := 124) rfl (B.d at_120) (by decide) (by decide)) ?_
      show Goes _ _ _ _ T (mkF m 124 #[.val (.long q0), .second, .val (.long q1), .second, .val (.long q2), .second, .val (.int p3), .val (.int (1 : Int32)), .val (.ref b3), .val (.long ee), .second, .val (.int (1 : Int32)), .val (.int (bi (¬ ee < ee))), .unset] [(.int (1 : Int32))])
      refine Goes.go (fun _ => XS.istore S.here B.x rfl (B.d at_124) rfl (l' := #[.val (.long q0), .second, .val (.long q1), .second, .val (.long q2), .second, .val (.int p3), .val (.int (1 : Int32)), .val (.ref b3), .val (.long ee), .second, .val (.int (1 : Int32)), .val (.int (bi (¬ ee < ee))), .val (.int (1 : Int32))]) rfl) ?_
      show Goes _ _ _ _ T (mkF m 126 #[.val (.long q0), .second, .val (.long q1), .second, .val (.long q2), .second, .val (.int p3), .val (.int (1 : Int32)), .val (.ref b3), .val (.long ee), .second, .val (.int (1 : Int32)), .val (.int (bi (¬ ee < ee))), .val (.int (1 : Int32))] [])
      refine Goes.go (fun _ => XS.iload S.here B.x rfl (B.d at_126) rfl) ?_
      show Goes _ _ _ _ T (mkF m 128 #[.val (.long q0), .second, .val (.long q1), .second, .val (.long q2), .second, .val (.int p3), .val (.int (1 : Int32)), .val (.ref b3), .val (.long ee), .second, .val (.int (1 : Int32)), .val (.int (bi (¬ ee < ee))), .val (.int (1 : Int32))] [(.int (1 : Int32))])
      refine Goes.go (fun _ => XS.ifNo S.here B.x rfl (B.d at_128) rfl (by decide)) ?_
      show Goes _ _ _ _ T (mkF m 131 #[.val (.long q0), .second, .val (.long q1), .second, .val (.long q2), .second, .val (.int p3), .val (.int (1 : Int32)), .val (.ref b3), .val (.long ee), .second, .val (.int (1 : Int32)), .val (.int (bi (¬ ee < ee))), .val (.int (1 : Int32))] [])
      refine Goes.go (fun _ => XS.iload S.here B.x rfl (B.d at_131) rfl) ?_
      show Goes _ _ _ _ T (mkF m 133 #[.val (.long q0), .second, .val (.long q1), .second, .val (.long q2), .second, .val (.int p3), .val (.int (1 : Int32)), .val (.ref b3), .val (.long ee), .second, .val (.int (1 : Int32)), .val (.int (bi (¬ ee < ee))), .val (.int (1 : Int32))] [(.int (bi (¬ ee < ee)))])
      refine Goes.go (fun _ => XS.ifNo S.here B.x rfl (B.d at_133) rfl ((if0 _ _).trans (feq (bi_ne (show ¬ ee < ee from fun q => own_irr _ q))).1)) ?_
      show Goes _ _ _ _ T (mkF m 136 #[.val (.long q0), .second, .val (.long q1), .second, .val (.long q2), .second, .val (.int p3), .val (.int (1 : Int32)), .val (.ref b3), .val (.long ee), .second, .val (.int (1 : Int32)), .val (.int (bi (¬ ee < ee))), .val (.int (1 : Int32))] [])
      refine Goes.go (fun _ => XS.iload S.here B.x rfl (B.d at_136) rfl) ?_
      show Goes _ _ _ _ T (mkF m 138 #[.val (.long q0), .second, .val (.long q1), .second, .val (.long q2), .second, .val (.int p3), .val (.int (1 : Int32)), .val (.ref b3), .val (.long ee), .second, .val (.int (1 : Int32)), .val (.int (bi (¬ ee < ee))), .val (.int (1 : Int32))] [(.int (1 : Int32))])
      refine Goes.go (fun _ => XS.ifNo S.here B.x rfl (B.d at_138) rfl (by decide)) ?_
      show Goes _ _ _ _ T (mkF m 141 #[.val (.long q0), .second, .val (.long q1), .second, .val (.long q2), .second, .val (.int p3), .val (.int (1 : Int32)), .val (.ref b3), .val (.long ee), .second, .val (.int (1 : Int32)), .val (.int (bi (¬ ee < ee))), .val (.int (1 : Int32))] [])
      refine Goes.go (fun _ => XS.iconst S.here B.x rfl (B.d at_141)) ?_
      show Goes _ _ _ _ T (mkF m 142 #[.val (.long q0), .second, .val (.long q1), .second, .val (.long q2), .second, .val (.int p3), .val (.int (1 : Int32)), .val (.ref b3), .val (.long ee), .second, .val (.int (1 : Int32)), .val (.int (bi (¬ ee < ee))), .val (.int (1 : Int32))] [(.int (1 : Int32))])
      refine Goes.go (fun _ => XS.goto S.here B.x rfl (pc0 := 142) (pc' := 146) rfl (B.d at_142) (by decide) (by decide)) ?_
      show Goes _ _ _ _ T (mkF m 146 #[.val (.long q0), .second, .val (.long q1), .second, .val (.long q2), .second, .val (.int p3), .val (.int (1 : Int32)), .val (.ref b3), .val (.long ee), .second, .val (.int (1 : Int32)), .val (.int (bi (¬ ee < ee))), .val (.int (1 : Int32))] [(.int (1 : Int32))])
      refine Goes.retN S B (by simp) at_146 (by decide) (by decide) ?_
      exact rfl
    · skip
      refine Goes.go (fun _ => XS.ifNo S.here B.x rfl (B.d at_104) rfl ((if0 _ _).trans (feq (mt (lw_eq ee (9223372036854775807 : Int64)).mp hc104)).1)) ?_
      show Goes _ _ _ _ T (mkF m 107 #[.val (.long q0), .second, .val (.long q1), .second, .val (.long q2), .second, .val (.int p3), .val (.int (1 : Int32)), .val (.ref b3), .val (.long ee), .second, .val (.int (1 : Int32)), .val (.int (bi (¬ ee < ee))), .unset] [])
      refine Goes.go (fun _ => XS.aload S.here B.x rfl (B.d at_107) rfl rfl) ?_
      show Goes _ _ _ _ T (mkF m 109 #[.val (.long q0), .second, .val (.long q1), .second, .val (.long q2), .second, .val (.int p3), .val (.int (1 : Int32)), .val (.ref b3), .val (.long ee), .second, .val (.int (1 : Int32)), .val (.int (bi (¬ ee < ee))), .unset] [(.ref b3)])
      refine Goes.go (fun _ => XS.lload S.here B.x rfl (B.d at_109) rfl) ?_
      show Goes _ _ _ _ T (mkF m 111 #[.val (.long q0), .second, .val (.long q1), .second, .val (.long q2), .second, .val (.int p3), .val (.int (1 : Int32)), .val (.ref b3), .val (.long ee), .second, .val (.int (1 : Int32)), .val (.int (bi (¬ ee < ee))), .unset] [(.long ee), (.ref b3)])
      refine Goes.go (fun _ => XS.lconst S.here B.x rfl (B.d at_111)) ?_
      show Goes _ _ _ _ T (mkF m 112 #[.val (.long q0), .second, .val (.long q1), .second, .val (.long q2), .second, .val (.int p3), .val (.int (1 : Int32)), .val (.ref b3), .val (.long ee), .second, .val (.int (1 : Int32)), .val (.int (bi (¬ ee < ee))), .unset] [(.long (1 : Int64)), (.long ee), (.ref b3)])
      refine Goes.go (fun _ => XS.ladd S.here B.x rfl (B.d at_112) rfl) ?_
      show Goes _ _ _ _ T (mkF m 113 #[.val (.long q0), .second, .val (.long q1), .second, .val (.long q2), .second, .val (.int p3), .val (.int (1 : Int32)), .val (.ref b3), .val (.long ee), .second, .val (.int (1 : Int32)), .val (.int (bi (¬ ee < ee))), .unset] [(.long (ee + (1 : Int64))), (.ref b3)])
      refine Goes.callV (argsL := [(.long (ee + (1 : Int64)))]) (rest := []) (W := 0) S B (rm_awaits l Z aw hw b3 (ee + (1 : Int64)) ee _ n0 F_b3_lastNotice) E_b3 (w27 hw) (w28 hw) (w30 hw) (w29 hw) (w2 hw) (w31 hw) (by decide) (by decide) (by decide) (by decide) (by decide) rfl (lenOf pd_3 rfl) rfl (Nat.le_of_eq rfl) at_113 ?_
      intro v T h S hQ
      obtain ⟨rfl, hh⟩ := hQ
      replace hh := hh.symm
      subst hh
      show Goes _ _ _ _ T (mkF m 116 #[.val (.long q0), .second, .val (.long q1), .second, .val (.long q2), .second, .val (.int p3), .val (.int (1 : Int32)), .val (.ref b3), .val (.long ee), .second, .val (.int (1 : Int32)), .val (.int (bi (¬ ee < ee))), .unset] [(.int (bi (¬ ee < (ee + (1 : Int64)))))])
      refine Goes.go (fun _ => XS.ifNo S.here B.x rfl (B.d at_116) rfl ((if0 _ _).trans (teq (bi_neg (show ¬ (¬ ee < (ee + (1 : Int64))) from fun q => q (own_up ee hc104)))).2)) ?_
      show Goes _ _ _ _ T (mkF m 119 #[.val (.long q0), .second, .val (.long q1), .second, .val (.long q2), .second, .val (.int p3), .val (.int (1 : Int32)), .val (.ref b3), .val (.long ee), .second, .val (.int (1 : Int32)), .val (.int (bi (¬ ee < ee))), .unset] [])
      refine Goes.go (fun _ => XS.iconst S.here B.x rfl (B.d at_119)) ?_
      show Goes _ _ _ _ T (mkF m 120 #[.val (.long q0), .second, .val (.long q1), .second, .val (.long q2), .second, .val (.int p3), .val (.int (1 : Int32)), .val (.ref b3), .val (.long ee), .second, .val (.int (1 : Int32)), .val (.int (bi (¬ ee < ee))), .unset] [(.int (1 : Int32))])
      refine Goes.go (fun _ => XS.goto S.here B.x rfl (pc0 := 120) (pc' := 124) rfl (B.d at_120) (by decide) (by decide)) ?_
      show Goes _ _ _ _ T (mkF m 124 #[.val (.long q0), .second, .val (.long q1), .second, .val (.long q2), .second, .val (.int p3), .val (.int (1 : Int32)), .val (.ref b3), .val (.long ee), .second, .val (.int (1 : Int32)), .val (.int (bi (¬ ee < ee))), .unset] [(.int (1 : Int32))])
      refine Goes.go (fun _ => XS.istore S.here B.x rfl (B.d at_124) rfl (l' := #[.val (.long q0), .second, .val (.long q1), .second, .val (.long q2), .second, .val (.int p3), .val (.int (1 : Int32)), .val (.ref b3), .val (.long ee), .second, .val (.int (1 : Int32)), .val (.int (bi (¬ ee < ee))), .val (.int (1 : Int32))]) rfl) ?_
      show Goes _ _ _ _ T (mkF m 126 #[.val (.long q0), .second, .val (.long q1), .second, .val (.long q2), .second, .val (.int p3), .val (.int (1 : Int32)), .val (.ref b3), .val (.long ee), .second, .val (.int (1 : Int32)), .val (.int (bi (¬ ee < ee))), .val (.int (1 : Int32))] [])
      refine Goes.go (fun _ => XS.iload S.here B.x rfl (B.d at_126) rfl) ?_
      show Goes _ _ _ _ T (mkF m 128 #[.val (.long q0), .second, .val (.long q1), .second, .val (.long q2), .second, .val (.int p3), .val (.int (1 : Int32)), .val (.ref b3), .val (.long ee), .second, .val (.int (1 : Int32)), .val (.int (bi (¬ ee < ee))), .val (.int (1 : Int32))] [(.int (1 : Int32))])
      refine Goes.go (fun _ => XS.ifNo S.here B.x rfl (B.d at_128) rfl (by decide)) ?_
      show Goes _ _ _ _ T (mkF m 131 #[.val (.long q0), .second, .val (.long q1), .second, .val (.long q2), .second, .val (.int p3), .val (.int (1 : Int32)), .val (.ref b3), .val (.long ee), .second, .val (.int (1 : Int32)), .val (.int (bi (¬ ee < ee))), .val (.int (1 : Int32))] [])
      refine Goes.go (fun _ => XS.iload S.here B.x rfl (B.d at_131) rfl) ?_
      show Goes _ _ _ _ T (mkF m 133 #[.val (.long q0), .second, .val (.long q1), .second, .val (.long q2), .second, .val (.int p3), .val (.int (1 : Int32)), .val (.ref b3), .val (.long ee), .second, .val (.int (1 : Int32)), .val (.int (bi (¬ ee < ee))), .val (.int (1 : Int32))] [(.int (bi (¬ ee < ee)))])
      refine Goes.go (fun _ => XS.ifNo S.here B.x rfl (B.d at_133) rfl ((if0 _ _).trans (feq (bi_ne (show ¬ ee < ee from fun q => own_irr _ q))).1)) ?_
      show Goes _ _ _ _ T (mkF m 136 #[.val (.long q0), .second, .val (.long q1), .second, .val (.long q2), .second, .val (.int p3), .val (.int (1 : Int32)), .val (.ref b3), .val (.long ee), .second, .val (.int (1 : Int32)), .val (.int (bi (¬ ee < ee))), .val (.int (1 : Int32))] [])
      refine Goes.go (fun _ => XS.iload S.here B.x rfl (B.d at_136) rfl) ?_
      show Goes _ _ _ _ T (mkF m 138 #[.val (.long q0), .second, .val (.long q1), .second, .val (.long q2), .second, .val (.int p3), .val (.int (1 : Int32)), .val (.ref b3), .val (.long ee), .second, .val (.int (1 : Int32)), .val (.int (bi (¬ ee < ee))), .val (.int (1 : Int32))] [(.int (1 : Int32))])
      refine Goes.go (fun _ => XS.ifNo S.here B.x rfl (B.d at_138) rfl (by decide)) ?_
      show Goes _ _ _ _ T (mkF m 141 #[.val (.long q0), .second, .val (.long q1), .second, .val (.long q2), .second, .val (.int p3), .val (.int (1 : Int32)), .val (.ref b3), .val (.long ee), .second, .val (.int (1 : Int32)), .val (.int (bi (¬ ee < ee))), .val (.int (1 : Int32))] [])
      refine Goes.go (fun _ => XS.iconst S.here B.x rfl (B.d at_141)) ?_
      show Goes _ _ _ _ T (mkF m 142 #[.val (.long q0), .second, .val (.long q1), .second, .val (.long q2), .second, .val (.int p3), .val (.int (1 : Int32)), .val (.ref b3), .val (.long ee), .second, .val (.int (1 : Int32)), .val (.int (bi (¬ ee < ee))), .val (.int (1 : Int32))] [(.int (1 : Int32))])
      refine Goes.go (fun _ => XS.goto S.here B.x rfl (pc0 := 142) (pc' := 146) rfl (B.d at_142) (by decide) (by decide)) ?_
      show Goes _ _ _ _ T (mkF m 146 #[.val (.long q0), .second, .val (.long q1), .second, .val (.long q2), .second, .val (.int p3), .val (.int (1 : Int32)), .val (.ref b3), .val (.long ee), .second, .val (.int (1 : Int32)), .val (.int (bi (¬ ee < ee))), .val (.int (1 : Int32))] [(.int (1 : Int32))])
      refine Goes.retN S B (by simp) at_146 (by decide) (by decide) ?_
      exact rfl
  · skip
    show Goes _ _ _ _ T (mkF m 6 #[.val (.long q0), .second, .val (.long q1), .second, .val (.long q2), .second, .val (.int p3), .val (.int (2 : Int32)), .unset, .unset, .unset, .unset, .unset, .unset] [])
    refine Goes.go (fun _ => XS.iload S.here B.x rfl (B.d at_6) rfl) ?_
    show Goes _ _ _ _ T (mkF m 8 #[.val (.long q0), .second, .val (.long q1), .second, .val (.long q2), .second, .val (.int p3), .val (.int (2 : Int32)), .unset, .unset, .unset, .unset, .unset, .unset] [(.int (2 : Int32))])
    refine Goes.go (fun _ => XS.iconst S.here B.x rfl (B.d at_8)) ?_
    show Goes _ _ _ _ T (mkF m 9 #[.val (.long q0), .second, .val (.long q1), .second, .val (.long q2), .second, .val (.int p3), .val (.int (2 : Int32)), .unset, .unset, .unset, .unset, .unset, .unset] [(.int (3 : Int32)), (.int (2 : Int32))])
    refine Goes.go (fun _ => XS.icmpYes S.here B.x rfl (pc0 := 9) (pc' := 15) rfl (B.d at_9) rfl (by decide) (by decide) (by decide)) ?_
    show Goes _ _ _ _ T (mkF m 15 #[.val (.long q0), .second, .val (.long q1), .second, .val (.long q2), .second, .val (.int p3), .val (.int (2 : Int32)), .unset, .unset, .unset, .unset, .unset, .unset] [])
    refine Goes.newO S B (w0 hw) (w1 hw) (w2 hw) at_15 (by decide) (by decide) ?_
    intro T h b4 S X zb g_b4 E_b4 D
    have F_b4_lastNotice : Fld Z h b4 "com/example/cormorant/cormorant/sim/Channel" "lastNotice" "J" (.long (0 : Int64)) := D (Or.inl (w11 hw)) (ty := .long) (by decide)
    show Goes _ _ _ _ T (mkF m 18 #[.val (.long q0), .second, .val (.long q1), .second, .val (.long q2), .second, .val (.int p3), .val (.int (2 : Int32)), .unset, .unset, .unset, .unset, .unset, .unset] [(.ref b4)])
    refine Goes.go (fun _ => XS.dup S.here B.x rfl (B.d at_18) rfl rfl) ?_
    show Goes _ _ _ _ T (mkF m 19 #[.val (.long q0), .second, .val (.long q1), .second, .val (.long q2), .second, .val (.int p3), .val (.int (2 : Int32)), .unset, .unset, .unset, .unset, .unset, .unset] [(.ref b4), (.ref b4)])
    refine Goes.callI (argsL := []) (rest := [(.ref b4)]) (W := 1) S B (rmI l Z aw hw b4 _ n0 E_b4 F_b4_lastNotice g_b4) (w3 hw) (w4 hw) (w2 hw) (w5 hw) (by decide) rfl (by decide) (by decide) (by decide) (by decide) rfl (lenOf pd_1 rfl) rfl (Nat.le_of_eq rfl) at_19 ?_
    intro v T h S hQ
    obtain ⟨rfl, Kc, E_b4', F_b4_lastNotice'⟩ := hQ
    replace E_b4 := E_b4'
    replace F_b4_lastNotice := F_b4_lastNotice'
    show Goes _ _ _ _ T (mkF m 22 #[.val (.long q0), .second, .val (.long q1), .second, .val (.long q2), .second, .val (.int p3), .val (.int (2 : Int32)), .unset, .unset, .unset, .unset, .unset, .unset] [(.ref b4)])
    refine Goes.go (fun _ => XS.astore S.here B.x rfl (B.d at_22) rfl rfl (l' := #[.val (.long q0), .second, .val (.long q1), .second, .val (.long q2), .second, .val (.int p3), .val (.int (2 : Int32)), .val (.ref b4), .unset, .unset, .unset, .unset, .unset]) rfl) ?_
    show Goes _ _ _ _ T (mkF m 24 #[.val (.long q0), .second, .val (.long q1), .second, .val (.long q2), .second, .val (.int p3), .val (.int (2 : Int32)), .val (.ref b4), .unset, .unset, .unset, .unset, .unset] [])
    refine Goes.go (fun _ => XS.iload S.here B.x rfl (B.d at_24) rfl) ?_
    show Goes _ _ _ _ T (mkF m 26 #[.val (.long q0), .second, .val (.long q1), .second, .val (.long q2), .second, .val (.int p3), .val (.int (2 : Int32)), .val (.ref b4), .unset, .unset, .unset, .unset, .unset] [(.int (2 : Int32))])
    refine Goes.go (fun _ => XS.iconst S.here B.x rfl (B.d at_26)) ?_
    show Goes _ _ _ _ T (mkF m 27 #[.val (.long q0), .second, .val (.long q1), .second, .val (.long q2), .second, .val (.int p3), .val (.int (2 : Int32)), .val (.ref b4), .unset, .unset, .unset, .unset, .unset] [(.int (1 : Int32)), (.int (2 : Int32))])
    refine Goes.go (fun _ => XS.icmpNo S.here B.x rfl (B.d at_27) rfl (by decide)) ?_
    show Goes _ _ _ _ T (mkF m 30 #[.val (.long q0), .second, .val (.long q1), .second, .val (.long q2), .second, .val (.int p3), .val (.int (2 : Int32)), .val (.ref b4), .unset, .unset, .unset, .unset, .unset] [])
    refine Goes.go (fun _ => XS.aload S.here B.x rfl (B.d at_30) rfl rfl) ?_
    show Goes _ _ _ _ T (mkF m 32 #[.val (.long q0), .second, .val (.long q1), .second, .val (.long q2), .second, .val (.int p3), .val (.int (2 : Int32)), .val (.ref b4), .unset, .unset, .unset, .unset, .unset] [(.ref b4)])
    refine Goes.go (fun _ => XS.lloadN S.here B.x rfl (B.d at_32) rfl) ?_
    show Goes _ _ _ _ T (mkF m 33 #[.val (.long q0), .second, .val (.long q1), .second, .val (.long q2), .second, .val (.int p3), .val (.int (2 : Int32)), .val (.ref b4), .unset, .unset, .unset, .unset, .unset] [(.long q0), (.ref b4)])
    refine Goes.callV (argsL := [(.long q0)]) (rest := []) (W := 0) S B (rm_notice l Z aw hw b4 q0 (-1 : Int64) _ n0 E_b4 F_b4_lastNotice g_b4) E_b4 (w12 hw) (w13 hw) (w15 hw) (w14 hw) (w2 hw) (w16 hw) (by decide) (by decide) (by decide) (by decide) (by decide) rfl (lenOf pd_4 rfl) rfl (Nat.le_of_eq rfl) at_33 ?_
    intro v T h S hQ
    obtain ⟨rfl, Kc, E_b4', F_b4_lastNotice'⟩ := hQ
    replace E_b4 := E_b4'
    replace F_b4_lastNotice := F_b4_lastNotice'
    show Goes _ _ _ _ T (mkF m 36 #[.val (.long q0), .second, .val (.long q1), .second, .val (.long q2), .second, .val (.int p3), .val (.int (2 : Int32)), .val (.ref b4), .unset, .unset, .unset, .unset, .unset] [(.long (own_max (-1 : Int64) q0))])
    refine Goes.pop2L S B at_36 ?_
    show Goes _ _ _ _ T (mkF m 37 #[.val (.long q0), .second, .val (.long q1), .second, .val (.long q2), .second, .val (.int p3), .val (.int (2 : Int32)), .val (.ref b4), .unset, .unset, .unset, .unset, .unset] [])
    refine Goes.go (fun _ => XS.iload S.here B.x rfl (B.d at_37) rfl) ?_
    show Goes _ _ _ _ T (mkF m 39 #[.val (.long q0), .second, .val (.long q1), .second, .val (.long q2), .second, .val (.int p3), .val (.int (2 : Int32)), .val (.ref b4), .unset, .unset, .unset, .unset, .unset] [(.int (2 : Int32))])
    refine Goes.go (fun _ => XS.iconst S.here B.x rfl (B.d at_39)) ?_
    show Goes _ _ _ _ T (mkF m 40 #[.val (.long q0), .second, .val (.long q1), .second, .val (.long q2), .second, .val (.int p3), .val (.int (2 : Int32)), .val (.ref b4), .unset, .unset, .unset, .unset, .unset] [(.int (2 : Int32)), (.int (2 : Int32))])
    refine Goes.go (fun _ => XS.icmpNo S.here B.x rfl (B.d at_40) rfl (by decide)) ?_
    show Goes _ _ _ _ T (mkF m 43 #[.val (.long q0), .second, .val (.long q1), .second, .val (.long q2), .second, .val (.int p3), .val (.int (2 : Int32)), .val (.ref b4), .unset, .unset, .unset, .unset, .unset] [])
    refine Goes.go (fun _ => XS.aload S.here B.x rfl (B.d at_43) rfl rfl) ?_
    show Goes _ _ _ _ T (mkF m 45 #[.val (.long q0), .second, .val (.long q1), .second, .val (.long q2), .second, .val (.int p3), .val (.int (2 : Int32)), .val (.ref b4), .unset, .unset, .unset, .unset, .unset] [(.ref b4)])
    refine Goes.go (fun _ => XS.lloadN S.here B.x rfl (B.d at_45) rfl) ?_
    show Goes _ _ _ _ T (mkF m 46 #[.val (.long q0), .second, .val (.long q1), .second, .val (.long q2), .second, .val (.int p3), .val (.int (2 : Int32)), .val (.ref b4), .unset, .unset, .unset, .unset, .unset] [(.long q1), (.ref b4)])
    refine Goes.callV (argsL := [(.long q1)]) (rest := []) (W := 0) S B (rm_notice l Z aw hw b4 q1 (own_max (-1 : Int64) q0) _ n0 E_b4 F_b4_lastNotice g_b4) E_b4 (w12 hw) (w13 hw) (w15 hw) (w14 hw) (w2 hw) (w16 hw) (by decide) (by decide) (by decide) (by decide) (by decide) rfl (lenOf pd_4 rfl) rfl (Nat.le_of_eq rfl) at_46 ?_
    intro v T h S hQ
    obtain ⟨rfl, Kc, E_b4', F_b4_lastNotice'⟩ := hQ
    replace E_b4 := E_b4'
    replace F_b4_lastNotice := F_b4_lastNotice'
    show Goes _ _ _ _ T (mkF m 49 #[.val (.long q0), .second, .val (.long q1), .second, .val (.long q2), .second, .val (.int p3), .val (.int (2 : Int32)), .val (.ref b4), .unset, .unset, .unset, .unset, .unset] [(.long (own_max (own_max (-1 : Int64) q0) q1))])
    refine Goes.pop2L S B at_49 ?_
    show Goes _ _ _ _ T (mkF m 50 #[.val (.long q0), .second, .val (.long q1), .second, .val (.long q2), .second, .val (.int p3), .val (.int (2 : Int32)), .val (.ref b4), .unset, .unset, .unset, .unset, .unset] [])
    refine Goes.go (fun _ => XS.iload S.here B.x rfl (B.d at_50) rfl) ?_
    show Goes _ _ _ _ T (mkF m 52 #[.val (.long q0), .second, .val (.long q1), .second, .val (.long q2), .second, .val (.int p3), .val (.int (2 : Int32)), .val (.ref b4), .unset, .unset, .unset, .unset, .unset] [(.int (2 : Int32))])
    refine Goes.go (fun _ => XS.lloadN S.here B.x rfl (B.d at_52) rfl) ?_
    show Goes _ _ _ _ T (mkF m 53 #[.val (.long q0), .second, .val (.long q1), .second, .val (.long q2), .second, .val (.int p3), .val (.int (2 : Int32)), .val (.ref b4), .unset, .unset, .unset, .unset, .unset] [(.long q0), (.int (2 : Int32))])
    refine Goes.go (fun _ => XS.lloadN S.here B.x rfl (B.d at_53) rfl) ?_
    show Goes _ _ _ _ T (mkF m 54 #[.val (.long q0), .second, .val (.long q1), .second, .val (.long q2), .second, .val (.int p3), .val (.int (2 : Int32)), .val (.ref b4), .unset, .unset, .unset, .unset, .unset] [(.long q1), (.long q0), (.int (2 : Int32))])
    refine Goes.callS (argsL := [(.int (2 : Int32)), (.long q0), (.long q1)]) (rest := []) (W := 0) S B (rm_latest l Z aw hw (2 : Int32) q0 q1 _ n0) (w21 hw) (w22 hw) (w23 hw) (w24 hw) (by decide) (by decide) (by decide) (by decide) (by decide) rfl (lenOf pd_2 rfl) rfl (Nat.le_of_eq rfl) at_54 ?_
    intro v T h S hQ
    obtain ⟨rfl, hh⟩ := hQ
    replace hh := hh.symm
    subst hh
    show Goes _ _ _ _ T (mkF m 57 #[.val (.long q0), .second, .val (.long q1), .second, .val (.long q2), .second, .val (.int p3), .val (.int (2 : Int32)), .val (.ref b4), .unset, .unset, .unset, .unset, .unset] [(.long (own_latest (2 : Int32) q0 q1))])
    rw [show (own_latest (2 : Int32) q0 q1) = (own_max (own_max (-1 : Int64) q0) q1) from own_l2 _ _]
    show Goes _ _ _ _ T (mkF m 57 #[.val (.long q0), .second, .val (.long q1), .second, .val (.long q2), .second, .val (.int p3), .val (.int (2 : Int32)), .val (.ref b4), .unset, .unset, .unset, .unset, .unset] [(.long (own_max (own_max (-1 : Int64) q0) q1))])
    generalize (own_max (own_max (-1 : Int64) q0) q1) = ee at *
    show Goes _ _ _ _ T (mkF m 57 #[.val (.long q0), .second, .val (.long q1), .second, .val (.long q2), .second, .val (.int p3), .val (.int (2 : Int32)), .val (.ref b4), .unset, .unset, .unset, .unset, .unset] [(.long ee)])
    refine Goes.go (fun _ => XS.lstore S.here B.x rfl (B.d at_57) rfl (l' := #[.val (.long q0), .second, .val (.long q1), .second, .val (.long q2), .second, .val (.int p3), .val (.int (2 : Int32)), .val (.ref b4), .val (.long ee), .second, .unset, .unset, .unset]) rfl) ?_
    show Goes _ _ _ _ T (mkF m 59 #[.val (.long q0), .second, .val (.long q1), .second, .val (.long q2), .second, .val (.int p3), .val (.int (2 : Int32)), .val (.ref b4), .val (.long ee), .second, .unset, .unset, .unset] [])
    refine Goes.go (fun _ => XS.aload S.here B.x rfl (B.d at_59) rfl rfl) ?_
    show Goes _ _ _ _ T (mkF m 61 #[.val (.long q0), .second, .val (.long q1), .second, .val (.long q2), .second, .val (.int p3), .val (.int (2 : Int32)), .val (.ref b4), .val (.long ee), .second, .unset, .unset, .unset] [(.ref b4)])
    refine Goes.go (fun _ => XS.lload S.here B.x rfl (B.d at_61) rfl) ?_
    show Goes _ _ _ _ T (mkF m 63 #[.val (.long q0), .second, .val (.long q1), .second, .val (.long q2), .second, .val (.int p3), .val (.int (2 : Int32)), .val (.ref b4), .val (.long ee), .second, .unset, .unset, .unset] [(.long q2), (.ref b4)])
    refine Goes.callV (argsL := [(.long q2)]) (rest := []) (W := 0) S B (rm_awaits l Z aw hw b4 q2 ee _ n0 F_b4_lastNotice) E_b4 (w27 hw) (w28 hw) (w30 hw) (w29 hw) (w2 hw) (w31 hw) (by decide) (by decide) (by decide) (by decide) (by decide) rfl (lenOf pd_3 rfl) rfl (Nat.le_of_eq rfl) at_63 ?_
    intro v T h S hQ
    obtain ⟨rfl, hh⟩ := hQ
    replace hh := hh.symm
    subst hh
    show Goes _ _ _ _ T (mkF m 66 #[.val (.long q0), .second, .val (.long q1), .second, .val (.long q2), .second, .val (.int p3), .val (.int (2 : Int32)), .val (.ref b4), .val (.long ee), .second, .unset, .unset, .unset] [(.int (bi (¬ ee < q2)))])
    refine Goes.go (fun _ => XS.lload S.here B.x rfl (B.d at_66) rfl) ?_
    show Goes _ _ _ _ T (mkF m 68 #[.val (.long q0), .second, .val (.long q1), .second, .val (.long q2), .second, .val (.int p3), .val (.int (2 : Int32)), .val (.ref b4), .val (.long ee), .second, .unset, .unset, .unset] [(.long ee), (.int (bi (¬ ee < q2)))])
    refine Goes.go (fun _ => XS.lload S.here B.x rfl (B.d at_68) rfl) ?_
    show Goes _ _ _ _ T (mkF m 70 #[.val (.long q0), .second, .val (.long q1), .second, .val (.long q2), .second, .val (.int p3), .val (.int (2 : Int32)), .val (.ref b4), .val (.long ee), .second, .unset, .unset, .unset] [(.long q2), (.long ee), (.int (bi (¬ ee < q2)))])
    refine Goes.go (fun _ => XS.lcmp S.here B.x rfl (B.d at_70) rfl) ?_
    show Goes _ _ _ _ T (mkF m 71 #[.val (.long q0), .second, .val (.long q1), .second, .val (.long q2), .second, .val (.int p3), .val (.int (2 : Int32)), .val (.ref b4), .val (.long ee), .second, .unset, .unset, .unset] [(.int (lcmpW ee q2)), (.int (bi (¬ ee < q2)))])
    refine Goes.dia (P := ¬ (ee < q2)) (mk := fun z => (mkF m 79 #[.val (.long q0), .second, .val (.long q1), .second, .val (.long q2), .second, .val (.int p3), .val (.int (2 : Int32)), .val (.ref b4), .val (.long ee), .second, .unset, .unset, .unset] [(.int z), (.int (bi (¬ ee < q2)))])) (fun hc71 kk => ?_) (fun hc71 kk => ?_) ?_
    · skip
      refine Goes.go (fun _ => XS.ifNo S.here B.x rfl (B.d at_71) rfl ((if0 _ _).trans (flt (mt (lw_lt ee q2).mp hc71)).1)) ?_
      show Goes _ _ _ _ T (mkF m 74 #[.val (.long q0), .second, .val (.long q1), .second, .val (.long q2), .second, .val (.int p3), .val (.int (2 : Int32)), .val (.ref b4), .val (.long ee), .second, .unset, .unset, .unset] [(.int (bi (¬ ee < q2)))])
      refine Goes.go (fun _ => XS.iconst S.here B.x rfl (B.d at_74)) ?_
      show Goes _ _ _ _ T (mkF m 75 #[.val (.long q0), .second, .val (.long q1), .second, .val (.long q2), .second, .val (.int p3), .val (.int (2 : Int32)), .val (.ref b4), .val (.long ee), .second, .unset, .unset, .unset] [(.int (1 : Int32)), (.int (bi (¬ ee < q2)))])
      refine Goes.go (fun _ => XS.goto S.here B.x rfl (pc0 := 75) (pc' := 79) rfl (B.d at_75) (by decide) (by decide)) ?_
      show Goes _ _ _ _ T (mkF m 79 #[.val (.long q0), .second, .val (.long q1), .second, .val (.long q2), .second, .val (.int p3), .val (.int (2 : Int32)), .val (.ref b4), .val (.long ee), .second, .unset, .unset, .unset] [(.int (1 : Int32)), (.int (bi (¬ ee < q2)))])
      exact kk
    · skip
      refine Goes.go (fun _ => XS.ifYes S.here B.x rfl (pc0 := 71) (pc' := 78) rfl (B.d at_71) rfl ((if0 _ _).trans (tlt ((lw_lt ee q2).mpr (Classical.not_not.mp hc71))).1) (by decide) (by decide)) ?_
      show Goes _ _ _ _ T (mkF m 78 #[.val (.long q0), .second, .val (.long q1), .second, .val (.long q2), .second, .val (.int p3), .val (.int (2 : Int32)), .val (.ref b4), .val (.long ee), .second, .unset, .unset, .unset] [(.int (bi (¬ ee < q2)))])
      refine Goes.go (fun _ => XS.iconst S.here B.x rfl (B.d at_78)) ?_
      show Goes _ _ _ _ T (mkF m 79 #[.val (.long q0), .second, .val (.long q1), .second, .val (.long q2), .second, .val (.int p3), .val (.int (2 : Int32)), .val (.ref b4), .val (.long ee), .second, .unset, .unset, .unset] [(.int (0 : Int32)), (.int (bi (¬ ee < q2)))])
      exact kk
    show Goes _ _ _ _ T (mkF m 79 #[.val (.long q0), .second, .val (.long q1), .second, .val (.long q2), .second, .val (.int p3), .val (.int (2 : Int32)), .val (.ref b4), .val (.long ee), .second, .unset, .unset, .unset] [(.int (bi (¬ (ee < q2)))), (.int (bi (¬ ee < q2)))])
    refine Goes.go (fun _ => XS.icmpNo S.here B.x rfl (B.d at_79) rfl (teq (show (bi (¬ ee < q2)) = (bi (¬ (ee < q2))) from rfl)).2) ?_
    show Goes _ _ _ _ T (mkF m 82 #[.val (.long q0), .second, .val (.long q1), .second, .val (.long q2), .second, .val (.int p3), .val (.int (2 : Int32)), .val (.ref b4), .val (.long ee), .second, .unset, .unset, .unset] [])
    refine Goes.go (fun _ => XS.iconst S.here B.x rfl (B.d at_82)) ?_
    show Goes _ _ _ _ T (mkF m 83 #[.val (.long q0), .second, .val (.long q1), .second, .val (.long q2), .second, .val (.int p3), .val (.int (2 : Int32)), .val (.ref b4), .val (.long ee), .second, .unset, .unset, .unset] [(.int (1 : Int32))])
    refine Goes.go (fun _ => XS.goto S.here B.x rfl (pc0 := 83) (pc' := 87) rfl (B.d at_83) (by decide) (by decide)) ?_
    show Goes _ _ _ _ T (mkF m 87 #[.val (.long q0), .second, .val (.long q1), .second, .val (.long q2), .second, .val (.int p3), .val (.int (2 : Int32)), .val (.ref b4), .val (.long ee), .second, .unset, .unset, .unset] [(.int (1 : Int32))])
    refine Goes.go (fun _ => XS.istore S.here B.x rfl (B.d at_87) rfl (l' := #[.val (.long q0), .second, .val (.long q1), .second, .val (.long q2), .second, .val (.int p3), .val (.int (2 : Int32)), .val (.ref b4), .val (.long ee), .second, .val (.int (1 : Int32)), .unset, .unset]) rfl) ?_
    show Goes _ _ _ _ T (mkF m 89 #[.val (.long q0), .second, .val (.long q1), .second, .val (.long q2), .second, .val (.int p3), .val (.int (2 : Int32)), .val (.ref b4), .val (.long ee), .second, .val (.int (1 : Int32)), .unset, .unset] [])
    refine Goes.go (fun _ => XS.aload S.here B.x rfl (B.d at_89) rfl rfl) ?_
    show Goes _ _ _ _ T (mkF m 91 #[.val (.long q0), .second, .val (.long q1), .second, .val (.long q2), .second, .val (.int p3), .val (.int (2 : Int32)), .val (.ref b4), .val (.long ee), .second, .val (.int (1 : Int32)), .unset, .unset] [(.ref b4)])
    refine Goes.go (fun _ => XS.lload S.here B.x rfl (B.d at_91) rfl) ?_
    show Goes _ _ _ _ T (mkF m 93 #[.val (.long q0), .second, .val (.long q1), .second, .val (.long q2), .second, .val (.int p3), .val (.int (2 : Int32)), .val (.ref b4), .val (.long ee), .second, .val (.int (1 : Int32)), .unset, .unset] [(.long ee), (.ref b4)])
    refine Goes.callV (argsL := [(.long ee)]) (rest := []) (W := 0) S B (rm_awaits l Z aw hw b4 ee ee _ n0 F_b4_lastNotice) E_b4 (w27 hw) (w28 hw) (w30 hw) (w29 hw) (w2 hw) (w31 hw) (by decide) (by decide) (by decide) (by decide) (by decide) rfl (lenOf pd_3 rfl) rfl (Nat.le_of_eq rfl) at_93 ?_
    intro v T h S hQ
    obtain ⟨rfl, hh⟩ := hQ
    replace hh := hh.symm
    subst hh
    show Goes _ _ _ _ T (mkF m 96 #[.val (.long q0), .second, .val (.long q1), .second, .val (.long q2), .second, .val (.int p3), .val (.int (2 : Int32)), .val (.ref b4), .val (.long ee), .second, .val (.int (1 : Int32)), .unset, .unset] [(.int (bi (¬ ee < ee)))])
    refine Goes.go (fun _ => XS.istore S.here B.x rfl (B.d at_96) rfl (l' := #[.val (.long q0), .second, .val (.long q1), .second, .val (.long q2), .second, .val (.int p3), .val (.int (2 : Int32)), .val (.ref b4), .val (.long ee), .second, .val (.int (1 : Int32)), .val (.int (bi (¬ ee < ee))), .unset]) rfl) ?_
    show Goes _ _ _ _ T (mkF m 98 #[.val (.long q0), .second, .val (.long q1), .second, .val (.long q2), .second, .val (.int p3), .val (.int (2 : Int32)), .val (.ref b4), .val (.long ee), .second, .val (.int (1 : Int32)), .val (.int (bi (¬ ee < ee))), .unset] [])
    refine Goes.go (fun _ => XS.lload S.here B.x rfl (B.d at_98) rfl) ?_
    show Goes _ _ _ _ T (mkF m 100 #[.val (.long q0), .second, .val (.long q1), .second, .val (.long q2), .second, .val (.int p3), .val (.int (2 : Int32)), .val (.ref b4), .val (.long ee), .second, .val (.int (1 : Int32)), .val (.int (bi (¬ ee < ee))), .unset] [(.long ee)])
    refine Goes.ldcL S B (w32 hw) at_100 ?_
    show Goes _ _ _ _ T (mkF m 103 #[.val (.long q0), .second, .val (.long q1), .second, .val (.long q2), .second, .val (.int p3), .val (.int (2 : Int32)), .val (.ref b4), .val (.long ee), .second, .val (.int (1 : Int32)), .val (.int (bi (¬ ee < ee))), .unset] [(.long (9223372036854775807 : Int64)), (.long ee)])
    refine Goes.go (fun _ => XS.lcmp S.here B.x rfl (B.d at_103) rfl) ?_
    show Goes _ _ _ _ T (mkF m 104 #[.val (.long q0), .second, .val (.long q1), .second, .val (.long q2), .second, .val (.int p3), .val (.int (2 : Int32)), .val (.ref b4), .val (.long ee), .second, .val (.int (1 : Int32)), .val (.int (bi (¬ ee < ee))), .unset] [(.int (lcmpW ee (9223372036854775807 : Int64)))])
    by_cases hc104 : ee = (9223372036854775807 : Int64)
    · skip
      refine Goes.go (fun _ => XS.ifYes S.here B.x rfl (pc0 := 104) (pc' := 119) rfl (B.d at_104) rfl ((if0 _ _).trans (teq ((lw_eq ee (9223372036854775807 : Int64)).mpr hc104)).1) (by decide) (by decide)) ?_
      show Goes _ _ _ _ T (mkF m 119 #[.val (.long q0), .second, .val (.long q1), .second, .val (.long q2), .second, .val (.int p3), .val (.int (2 : Int32)), .val (.ref b4), .val (.long ee), .second, .val (.int (1 : Int32)), .val (.int (bi (¬ ee < ee))), .unset] [])
      refine Goes.go (fun _ => XS.iconst S.here B.x rfl (B.d at_119)) ?_
      show Goes _ _ _ _ T (mkF m 120 #[.val (.long q0), .second, .val (.long q1), .second, .val (.long q2), .second, .val (.int p3), .val (.int (2 : Int32)), .val (.ref b4), .val (.long ee), .second, .val (.int (1 : Int32)), .val (.int (bi (¬ ee < ee))), .unset] [(.int (1 : Int32))])
      refine Goes.go (fun _ => XS.goto S.here B.x rfl (pc0 := 120) (pc' := 124) rfl (B.d at_120) (by decide) (by decide)) ?_
      show Goes _ _ _ _ T (mkF m 124 #[.val (.long q0), .second, .val (.long q1), .second, .val (.long q2), .second, .val (.int p3), .val (.int (2 : Int32)), .val (.ref b4), .val (.long ee), .second, .val (.int (1 : Int32)), .val (.int (bi (¬ ee < ee))), .unset] [(.int (1 : Int32))])
      refine Goes.go (fun _ => XS.istore S.here B.x rfl (B.d at_124) rfl (l' := #[.val (.long q0), .second, .val (.long q1), .second, .val (.long q2), .second, .val (.int p3), .val (.int (2 : Int32)), .val (.ref b4), .val (.long ee), .second, .val (.int (1 : Int32)), .val (.int (bi (¬ ee < ee))), .val (.int (1 : Int32))]) rfl) ?_
      show Goes _ _ _ _ T (mkF m 126 #[.val (.long q0), .second, .val (.long q1), .second, .val (.long q2), .second, .val (.int p3), .val (.int (2 : Int32)), .val (.ref b4), .val (.long ee), .second, .val (.int (1 : Int32)), .val (.int (bi (¬ ee < ee))), .val (.int (1 : Int32))] [])
      refine Goes.go (fun _ => XS.iload S.here B.x rfl (B.d at_126) rfl) ?_
      show Goes _ _ _ _ T (mkF m 128 #[.val (.long q0), .second, .val (.long q1), .second, .val (.long q2), .second, .val (.int p3), .val (.int (2 : Int32)), .val (.ref b4), .val (.long ee), .second, .val (.int (1 : Int32)), .val (.int (bi (¬ ee < ee))), .val (.int (1 : Int32))] [(.int (1 : Int32))])
      refine Goes.go (fun _ => XS.ifNo S.here B.x rfl (B.d at_128) rfl (by decide)) ?_
      show Goes _ _ _ _ T (mkF m 131 #[.val (.long q0), .second, .val (.long q1), .second, .val (.long q2), .second, .val (.int p3), .val (.int (2 : Int32)), .val (.ref b4), .val (.long ee), .second, .val (.int (1 : Int32)), .val (.int (bi (¬ ee < ee))), .val (.int (1 : Int32))] [])
      refine Goes.go (fun _ => XS.iload S.here B.x rfl (B.d at_131) rfl) ?_
      show Goes _ _ _ _ T (mkF m 133 #[.val (.long q0), .second, .val (.long q1), .second, .val (.long q2), .second, .val (.int p3), .val (.int (2 : Int32)), .val (.ref b4), .val (.long ee), .second, .val (.int (1 : Int32)), .val (.int (bi (¬ ee < ee))), .val (.int (1 : Int32))] [(.int (bi (¬ ee < ee)))])
      refine Goes.go (fun _ => XS.ifNo S.here B.x rfl (B.d at_133) rfl ((if0 _ _).trans (feq (bi_ne (show ¬ ee < ee from fun q => own_irr _ q))).1)) ?_
      show Goes _ _ _ _ T (mkF m 136 #[.val (.long q0), .second, .val (.long q1), .second, .val (.long q2), .second, .val (.int p3), .val (.int (2 : Int32)), .val (.ref b4), .val (.long ee), .second, .val (.int (1 : Int32)), .val (.int (bi (¬ ee < ee))), .val (.int (1 : Int32))] [])
      refine Goes.go (fun _ => XS.iload S.here B.x rfl (B.d at_136) rfl) ?_
      show Goes _ _ _ _ T (mkF m 138 #[.val (.long q0), .second, .val (.long q1), .second, .val (.long q2), .second, .val (.int p3), .val (.int (2 : Int32)), .val (.ref b4), .val (.long ee), .second, .val (.int (1 : Int32)), .val (.int (bi (¬ ee < ee))), .val (.int (1 : Int32))] [(.int (1 : Int32))])
      refine Goes.go (fun _ => XS.ifNo S.here B.x rfl (B.d at_138) rfl (by decide)) ?_
      show Goes _ _ _ _ T (mkF m 141 #[.val (.long q0), .second, .val (.long q1), .second, .val (.long q2), .second, .val (.int p3), .val (.int (2 : Int32)), .val (.ref b4), .val (.long ee), .second, .val (.int (1 : Int32)), .val (.int (bi (¬ ee < ee))), .val (.int (1 : Int32))] [])
      refine Goes.go (fun _ => XS.iconst S.here B.x rfl (B.d at_141)) ?_
      show Goes _ _ _ _ T (mkF m 142 #[.val (.long q0), .second, .val (.long q1), .second, .val (.long q2), .second, .val (.int p3), .val (.int (2 : Int32)), .val (.ref b4), .val (.long ee), .second, .val (.int (1 : Int32)), .val (.int (bi (¬ ee < ee))), .val (.int (1 : Int32))] [(.int (1 : Int32))])
      refine Goes.go (fun _ => XS.goto S.here B.x rfl (pc0 := 142) (pc' := 146) rfl (B.d at_142) (by decide) (by decide)) ?_
      show Goes _ _ _ _ T (mkF m 146 #[.val (.long q0), .second, .val (.long q1), .second, .val (.long q2), .second, .val (.int p3), .val (.int (2 : Int32)), .val (.ref b4), .val (.long ee), .second, .val (.int (1 : Int32)), .val (.int (bi (¬ ee < ee))), .val (.int (1 : Int32))] [(.int (1 : Int32))])
      refine Goes.retN S B (by simp) at_146 (by decide) (by decide) ?_
      exact rfl
    · skip
      refine Goes.go (fun _ => XS.ifNo S.here B.x rfl (B.d at_104) rfl ((if0 _ _).trans (feq (mt (lw_eq ee (9223372036854775807 : Int64)).mp hc104)).1)) ?_
      show Goes _ _ _ _ T (mkF m 107 #[.val (.long q0), .second, .val (.long q1), .second, .val (.long q2), .second, .val (.int p3), .val (.int (2 : Int32)), .val (.ref b4), .val (.long ee), .second, .val (.int (1 : Int32)), .val (.int (bi (¬ ee < ee))), .unset] [])
      refine Goes.go (fun _ => XS.aload S.here B.x rfl (B.d at_107) rfl rfl) ?_
      show Goes _ _ _ _ T (mkF m 109 #[.val (.long q0), .second, .val (.long q1), .second, .val (.long q2), .second, .val (.int p3), .val (.int (2 : Int32)), .val (.ref b4), .val (.long ee), .second, .val (.int (1 : Int32)), .val (.int (bi (¬ ee < ee))), .unset] [(.ref b4)])
      refine Goes.go (fun _ => XS.lload S.here B.x rfl (B.d at_109) rfl) ?_
      show Goes _ _ _ _ T (mkF m 111 #[.val (.long q0), .second, .val (.long q1), .second, .val (.long q2), .second, .val (.int p3), .val (.int (2 : Int32)), .val (.ref b4), .val (.long ee), .second, .val (.int (1 : Int32)), .val (.int (bi (¬ ee < ee))), .unset] [(.long ee), (.ref b4)])
      refine Goes.go (fun _ => XS.lconst S.here B.x rfl (B.d at_111)) ?_
      show Goes _ _ _ _ T (mkF m 112 #[.val (.long q0), .second, .val (.long q1), .second, .val (.long q2), .second, .val (.int p3), .val (.int (2 : Int32)), .val (.ref b4), .val (.long ee), .second, .val (.int (1 : Int32)), .val (.int (bi (¬ ee < ee))), .unset] [(.long (1 : Int64)), (.long ee), (.ref b4)])
      refine Goes.go (fun _ => XS.ladd S.here B.x rfl (B.d at_112) rfl) ?_
      show Goes _ _ _ _ T (mkF m 113 #[.val (.long q0), .second, .val (.long q1), .second, .val (.long q2), .second, .val (.int p3), .val (.int (2 : Int32)), .val (.ref b4), .val (.long ee), .second, .val (.int (1 : Int32)), .val (.int (bi (¬ ee < ee))), .unset] [(.long (ee + (1 : Int64))), (.ref b4)])
      refine Goes.callV (argsL := [(.long (ee + (1 : Int64)))]) (rest := []) (W := 0) S B (rm_awaits l Z aw hw b4 (ee + (1 : Int64)) ee _ n0 F_b4_lastNotice) E_b4 (w27 hw) (w28 hw) (w30 hw) (w29 hw) (w2 hw) (w31 hw) (by decide) (by decide) (by decide) (by decide) (by decide) rfl (lenOf pd_3 rfl) rfl (Nat.le_of_eq rfl) at_113 ?_
      intro v T h S hQ
      obtain ⟨rfl, hh⟩ := hQ
      replace hh := hh.symm
      subst hh
      show Goes _ _ _ _ T (mkF m 116 #[.val (.long q0), .second, .val (.long q1), .second, .val (.long q2), .second, .val (.int p3), .val (.int (2 : Int32)), .val (.ref b4), .val (.long ee), .second, .val (.int (1 : Int32)), .val (.int (bi (¬ ee < ee))), .unset] [(.int (bi (¬ ee < (ee + (1 : Int64)))))])
      refine Goes.go (fun _ => XS.ifNo S.here B.x rfl (B.d at_116) rfl ((if0 _ _).trans (teq (bi_neg (show ¬ (¬ ee < (ee + (1 : Int64))) from fun q => q (own_up ee hc104)))).2)) ?_
      show Goes _ _ _ _ T (mkF m 119 #[.val (.long q0), .second, .val (.long q1), .second, .val (.long q2), .second, .val (.int p3), .val (.int (2 : Int32)), .val (.ref b4), .val (.long ee), .second, .val (.int (1 : Int32)), .val (.int (bi (¬ ee < ee))), .unset] [])
      refine Goes.go (fun _ => XS.iconst S.here B.x rfl (B.d at_119)) ?_
      show Goes _ _ _ _ T (mkF m 120 #[.val (.long q0), .second, .val (.long q1), .second, .val (.long q2), .second, .val (.int p3), .val (.int (2 : Int32)), .val (.ref b4), .val (.long ee), .second, .val (.int (1 : Int32)), .val (.int (bi (¬ ee < ee))), .unset] [(.int (1 : Int32))])
      refine Goes.go (fun _ => XS.goto S.here B.x rfl (pc0 := 120) (pc' := 124) rfl (B.d at_120) (by decide) (by decide)) ?_
      show Goes _ _ _ _ T (mkF m 124 #[.val (.long q0), .second, .val (.long q1), .second, .val (.long q2), .second, .val (.int p3), .val (.int (2 : Int32)), .val (.ref b4), .val (.long ee), .second, .val (.int (1 : Int32)), .val (.int (bi (¬ ee < ee))), .unset] [(.int (1 : Int32))])
      refine Goes.go (fun _ => XS.istore S.here B.x rfl (B.d at_124) rfl (l' := #[.val (.long q0), .second, .val (.long q1), .second, .val (.long q2), .second, .val (.int p3), .val (.int (2 : Int32)), .val (.ref b4), .val (.long ee), .second, .val (.int (1 : Int32)), .val (.int (bi (¬ ee < ee))), .val (.int (1 : Int32))]) rfl) ?_
      show Goes _ _ _ _ T (mkF m 126 #[.val (.long q0), .second, .val (.long q1), .second, .val (.long q2), .second, .val (.int p3), .val (.int (2 : Int32)), .val (.ref b4), .val (.long ee), .second, .val (.int (1 : Int32)), .val (.int (bi (¬ ee < ee))), .val (.int (1 : Int32))] [])
      refine Goes.go (fun _ => XS.iload S.here B.x rfl (B.d at_126) rfl) ?_
      show Goes _ _ _ _ T (mkF m 128 #[.val (.long q0), .second, .val (.long q1), .second, .val (.long q2), .second, .val (.int p3), .val (.int (2 : Int32)), .val (.ref b4), .val (.long ee), .second, .val (.int (1 : Int32)), .val (.int (bi (¬ ee < ee))), .val (.int (1 : Int32))] [(.int (1 : Int32))])
      refine Goes.go (fun _ => XS.ifNo S.here B.x rfl (B.d at_128) rfl (by decide)) ?_
      show Goes _ _ _ _ T (mkF m 131 #[.val (.long q0), .second, .val (.long q1), .second, .val (.long q2), .second, .val (.int p3), .val (.int (2 : Int32)), .val (.ref b4), .val (.long ee), .second, .val (.int (1 : Int32)), .val (.int (bi (¬ ee < ee))), .val (.int (1 : Int32))] [])
      refine Goes.go (fun _ => XS.iload S.here B.x rfl (B.d at_131) rfl) ?_
      show Goes _ _ _ _ T (mkF m 133 #[.val (.long q0), .second, .val (.long q1), .second, .val (.long q2), .second, .val (.int p3), .val (.int (2 : Int32)), .val (.ref b4), .val (.long ee), .second, .val (.int (1 : Int32)), .val (.int (bi (¬ ee < ee))), .val (.int (1 : Int32))] [(.int (bi (¬ ee < ee)))])
      refine Goes.go (fun _ => XS.ifNo S.here B.x rfl (B.d at_133) rfl ((if0 _ _).trans (feq (bi_ne (show ¬ ee < ee from fun q => own_irr _ q))).1)) ?_
      show Goes _ _ _ _ T (mkF m 136 #[.val (.long q0), .second, .val (.long q1), .second, .val (.long q2), .second, .val (.int p3), .val (.int (2 : Int32)), .val (.ref b4), .val (.long ee), .second, .val (.int (1 : Int32)), .val (.int (bi (¬ ee < ee))), .val (.int (1 : Int32))] [])
      refine Goes.go (fun _ => XS.iload S.here B.x rfl (B.d at_136) rfl) ?_
      show Goes _ _ _ _ T (mkF m 138 #[.val (.long q0), .second, .val (.long q1), .second, .val (.long q2), .second, .val (.int p3), .val (.int (2 : Int32)), .val (.ref b4), .val (.long ee), .second, .val (.int (1 : Int32)), .val (.int (bi (¬ ee < ee))), .val (.int (1 : Int32))] [(.int (1 : Int32))])
      refine Goes.go (fun _ => XS.ifNo S.here B.x rfl (B.d at_138) rfl (by decide)) ?_
      show Goes _ _ _ _ T (mkF m 141 #[.val (.long q0), .second, .val (.long q1), .second, .val (.long q2), .second, .val (.int p3), .val (.int (2 : Int32)), .val (.ref b4), .val (.long ee), .second, .val (.int (1 : Int32)), .val (.int (bi (¬ ee < ee))), .val (.int (1 : Int32))] [])
      refine Goes.go (fun _ => XS.iconst S.here B.x rfl (B.d at_141)) ?_
      show Goes _ _ _ _ T (mkF m 142 #[.val (.long q0), .second, .val (.long q1), .second, .val (.long q2), .second, .val (.int p3), .val (.int (2 : Int32)), .val (.ref b4), .val (.long ee), .second, .val (.int (1 : Int32)), .val (.int (bi (¬ ee < ee))), .val (.int (1 : Int32))] [(.int (1 : Int32))])
      refine Goes.go (fun _ => XS.goto S.here B.x rfl (pc0 := 142) (pc' := 146) rfl (B.d at_142) (by decide) (by decide)) ?_
      show Goes _ _ _ _ T (mkF m 146 #[.val (.long q0), .second, .val (.long q1), .second, .val (.long q2), .second, .val (.int p3), .val (.int (2 : Int32)), .val (.ref b4), .val (.long ee), .second, .val (.int (1 : Int32)), .val (.int (bi (¬ ee < ee))), .val (.int (1 : Int32))] [(.int (1 : Int32))])
      refine Goes.retN S B (by simp) at_146 (by decide) (by decide) ?_
      exact rfl
  · skip
    show Goes _ _ _ _ T (mkF m 6 #[.val (.long q0), .second, .val (.long q1), .second, .val (.long q2), .second, .val (.int p3), .val (.int (3 : Int32)), .unset, .unset, .unset, .unset, .unset, .unset] [])
    refine Goes.go (fun _ => XS.iload S.here B.x rfl (B.d at_6) rfl) ?_
    show Goes _ _ _ _ T (mkF m 8 #[.val (.long q0), .second, .val (.long q1), .second, .val (.long q2), .second, .val (.int p3), .val (.int (3 : Int32)), .unset, .unset, .unset, .unset, .unset, .unset] [(.int (3 : Int32))])
    refine Goes.go (fun _ => XS.iconst S.here B.x rfl (B.d at_8)) ?_
    show Goes _ _ _ _ T (mkF m 9 #[.val (.long q0), .second, .val (.long q1), .second, .val (.long q2), .second, .val (.int p3), .val (.int (3 : Int32)), .unset, .unset, .unset, .unset, .unset, .unset] [(.int (3 : Int32)), (.int (3 : Int32))])
    refine Goes.go (fun _ => XS.icmpNo S.here B.x rfl (B.d at_9) rfl (by decide)) ?_
    show Goes _ _ _ _ T (mkF m 12 #[.val (.long q0), .second, .val (.long q1), .second, .val (.long q2), .second, .val (.int p3), .val (.int (3 : Int32)), .unset, .unset, .unset, .unset, .unset, .unset] [])
    refine Goes.go (fun _ => XS.iconst S.here B.x rfl (B.d at_12)) ?_
    show Goes _ _ _ _ T (mkF m 13 #[.val (.long q0), .second, .val (.long q1), .second, .val (.long q2), .second, .val (.int p3), .val (.int (3 : Int32)), .unset, .unset, .unset, .unset, .unset, .unset] [(.int (2 : Int32))])
    refine Goes.go (fun _ => XS.istore S.here B.x rfl (B.d at_13) rfl (l' := #[.val (.long q0), .second, .val (.long q1), .second, .val (.long q2), .second, .val (.int p3), .val (.int (2 : Int32)), .unset, .unset, .unset, .unset, .unset, .unset]) rfl) ?_
    show Goes _ _ _ _ T (mkF m 15 #[.val (.long q0), .second, .val (.long q1), .second, .val (.long q2), .second, .val (.int p3), .val (.int (2 : Int32)), .unset, .unset, .unset, .unset, .unset, .unset] [])
    refine Goes.newO S B (w0 hw) (w1 hw) (w2 hw) at_15 (by decide) (by decide) ?_
    intro T h b5 S X zb g_b5 E_b5 D
    have F_b5_lastNotice : Fld Z h b5 "com/example/cormorant/cormorant/sim/Channel" "lastNotice" "J" (.long (0 : Int64)) := D (Or.inl (w11 hw)) (ty := .long) (by decide)
    show Goes _ _ _ _ T (mkF m 18 #[.val (.long q0), .second, .val (.long q1), .second, .val (.long q2), .second, .val (.int p3), .val (.int (2 : Int32)), .unset, .unset, .unset, .unset, .unset, .unset] [(.ref b5)])
    refine Goes.go (fun _ => XS.dup S.here B.x rfl (B.d at_18) rfl rfl) ?_
    show Goes _ _ _ _ T (mkF m 19 #[.val (.long q0), .second, .val (.long q1), .second, .val (.long q2), .second, .val (.int p3), .val (.int (2 : Int32)), .unset, .unset, .unset, .unset, .unset, .unset] [(.ref b5), (.ref b5)])
    refine Goes.callI (argsL := []) (rest := [(.ref b5)]) (W := 1) S B (rmI l Z aw hw b5 _ n0 E_b5 F_b5_lastNotice g_b5) (w3 hw) (w4 hw) (w2 hw) (w5 hw) (by decide) rfl (by decide) (by decide) (by decide) (by decide) rfl (lenOf pd_1 rfl) rfl (Nat.le_of_eq rfl) at_19 ?_
    intro v T h S hQ
    obtain ⟨rfl, Kc, E_b5', F_b5_lastNotice'⟩ := hQ
    replace E_b5 := E_b5'
    replace F_b5_lastNotice := F_b5_lastNotice'
    show Goes _ _ _ _ T (mkF m 22 #[.val (.long q0), .second, .val (.long q1), .second, .val (.long q2), .second, .val (.int p3), .val (.int (2 : Int32)), .unset, .unset, .unset, .unset, .unset, .unset] [(.ref b5)])
    refine Goes.go (fun _ => XS.astore S.here B.x rfl (B.d at_22) rfl rfl (l' := #[.val (.long q0), .second, .val (.long q1), .second, .val (.long q2), .second, .val (.int p3), .val (.int (2 : Int32)), .val (.ref b5), .unset, .unset, .unset, .unset, .unset]) rfl) ?_
    show Goes _ _ _ _ T (mkF m 24 #[.val (.long q0), .second, .val (.long q1), .second, .val (.long q2), .second, .val (.int p3), .val (.int (2 : Int32)), .val (.ref b5), .unset, .unset, .unset, .unset, .unset] [])
    refine Goes.go (fun _ => XS.iload S.here B.x rfl (B.d at_24) rfl) ?_
    show Goes _ _ _ _ T (mkF m 26 #[.val (.long q0), .second, .val (.long q1), .second, .val (.long q2), .second, .val (.int p3), .val (.int (2 : Int32)), .val (.ref b5), .unset, .unset, .unset, .unset, .unset] [(.int (2 : Int32))])
    refine Goes.go (fun _ => XS.iconst S.here B.x rfl (B.d at_26)) ?_
    show Goes _ _ _ _ T (mkF m 27 #[.val (.long q0), .second, .val (.long q1), .second, .val (.long q2), .second, .val (.int p3), .val (.int (2 : Int32)), .val (.ref b5), .unset, .unset, .unset, .unset, .unset] [(.int (1 : Int32)), (.int (2 : Int32))])
    refine Goes.go (fun _ => XS.icmpNo S.here B.x rfl (B.d at_27) rfl (by decide)) ?_
    show Goes _ _ _ _ T (mkF m 30 #[.val (.long q0), .second, .val (.long q1), .second, .val (.long q2), .second, .val (.int p3), .val (.int (2 : Int32)), .val (.ref b5), .unset, .unset, .unset, .unset, .unset] [])
    refine Goes.go (fun _ => XS.aload S.here B.x rfl (B.d at_30) rfl rfl) ?_
    show Goes _ _ _ _ T (mkF m 32 #[.val (.long q0), .second, .val (.long q1), .second, .val (.long q2), .second, .val (.int p3), .val (.int (2 : Int32)), .val (.ref b5), .unset, .unset, .unset, .unset, .unset] [(.ref b5)])
    refine Goes.go (fun _ => XS.lloadN S.here B.x rfl (B.d at_32) rfl) ?_
    show Goes _ _ _ _ T (mkF m 33 #[.val (.long q0), .second, .val (.long q1), .second, .val (.long q2), .second, .val (.int p3), .val (.int (2 : Int32)), .val (.ref b5), .unset, .unset, .unset, .unset, .unset] [(.long q0), (.ref b5)])
    refine Goes.callV (argsL := [(.long q0)]) (rest := []) (W := 0) S B (rm_notice l Z aw hw b5 q0 (-1 : Int64) _ n0 E_b5 F_b5_lastNotice g_b5) E_b5 (w12 hw) (w13 hw) (w15 hw) (w14 hw) (w2 hw) (w16 hw) (by decide) (by decide) (by decide) (by decide) (by decide) rfl (lenOf pd_4 rfl) rfl (Nat.le_of_eq rfl) at_33 ?_
    intro v T h S hQ
    obtain ⟨rfl, Kc, E_b5', F_b5_lastNotice'⟩ := hQ
    replace E_b5 := E_b5'
    replace F_b5_lastNotice := F_b5_lastNotice'
    show Goes _ _ _ _ T (mkF m 36 #[.val (.long q0), .second, .val (.long q1), .second, .val (.long q2), .second, .val (.int p3), .val (.int (2 : Int32)), .val (.ref b5), .unset, .unset, .unset, .unset, .unset] [(.long (own_max (-1 : Int64) q0))])
    refine Goes.pop2L S B at_36 ?_
    show Goes _ _ _ _ T (mkF m 37 #[.val (.long q0), .second, .val (.long q1), .second, .val (.long q2), .second, .val (.int p3), .val (.int (2 : Int32)), .val (.ref b5), .unset, .unset, .unset, .unset, .unset] [])
    refine Goes.go (fun _ => XS.iload S.here B.x rfl (B.d at_37) rfl) ?_
    show Goes _ _ _ _ T (mkF m 39 #[.val (.long q0), .second, .val (.long q1), .second, .val (.long q2), .second, .val (.int p3), .val (.int (2 : Int32)), .val (.ref b5), .unset, .unset, .unset, .unset, .unset] [(.int (2 : Int32))])
    refine Goes.go (fun _ => XS.iconst S.here B.x rfl (B.d at_39)) ?_
    show Goes _ _ _ _ T (mkF m 40 #[.val (.long q0), .second, .val (.long q1), .second, .val (.long q2), .second, .val (.int p3), .val (.int (2 : Int32)), .val (.ref b5), .unset, .unset, .unset, .unset, .unset] [(.int (2 : Int32)), (.int (2 : Int32))])
    refine Goes.go (fun _ => XS.icmpNo S.here B.x rfl (B.d at_40) rfl (by decide)) ?_
    show Goes _ _ _ _ T (mkF m 43 #[.val (.long q0), .second, .val (.long q1), .second, .val (.long q2), .second, .val (.int p3), .val (.int (2 : Int32)), .val (.ref b5), .unset, .unset, .unset, .unset, .unset] [])
    refine Goes.go (fun _ => XS.aload S.here B.x rfl (B.d at_43) rfl rfl) ?_
    show Goes _ _ _ _ T (mkF m 45 #[.val (.long q0), .second, .val (.long q1), .second, .val (.long q2), .second, .val (.int p3), .val (.int (2 : Int32)), .val (.ref b5), .unset, .unset, .unset, .unset, .unset] [(.ref b5)])
    refine Goes.go (fun _ => XS.lloadN S.here B.x rfl (B.d at_45) rfl) ?_
    show Goes _ _ _ _ T (mkF m 46 #[.val (.long q0), .second, .val (.long q1), .second, .val (.long q2), .second, .val (.int p3), .val (.int (2 : Int32)), .val (.ref b5), .unset, .unset, .unset, .unset, .unset] [(.long q1), (.ref b5)])
    refine Goes.callV (argsL := [(.long q1)]) (rest := []) (W := 0) S B (rm_notice l Z aw hw b5 q1 (own_max (-1 : Int64) q0) _ n0 E_b5 F_b5_lastNotice g_b5) E_b5 (w12 hw) (w13 hw) (w15 hw) (w14 hw) (w2 hw) (w16 hw) (by decide) (by decide) (by decide) (by decide) (by decide) rfl (lenOf pd_4 rfl) rfl (Nat.le_of_eq rfl) at_46 ?_
    intro v T h S hQ
    obtain ⟨rfl, Kc, E_b5', F_b5_lastNotice'⟩ := hQ
    replace E_b5 := E_b5'
    replace F_b5_lastNotice := F_b5_lastNotice'
    show Goes _ _ _ _ T (mkF m 49 #[.val (.long q0), .second, .val (.long q1), .second, .val (.long q2), .second, .val (.int p3), .val (.int (2 : Int32)), .val (.ref b5), .unset, .unset, .unset, .unset, .unset] [(.long (own_max (own_max (-1 : Int64) q0) q1))])
    refine Goes.pop2L S B at_49 ?_
    show Goes _ _ _ _ T (mkF m 50 #[.val (.long q0), .second, .val (.long q1), .second, .val (.long q2), .second, .val (.int p3), .val (.int (2 : Int32)), .val (.ref b5), .unset, .unset, .unset, .unset, .unset] [])
    refine Goes.go (fun _ => XS.iload S.here B.x rfl (B.d at_50) rfl) ?_
    show Goes _ _ _ _ T (mkF m 52 #[.val (.long q0), .second, .val (.long q1), .second, .val (.long q2), .second, .val (.int p3), .val (.int (2 : Int32)), .val (.ref b5), .unset, .unset, .unset, .unset, .unset] [(.int (2 : Int32))])
    refine Goes.go (fun _ => XS.lloadN S.here B.x rfl (B.d at_52) rfl) ?_
    show Goes _ _ _ _ T (mkF m 53 #[.val (.long q0), .second, .val (.long q1), .second, .val (.long q2), .second, .val (.int p3), .val (.int (2 : Int32)), .val (.ref b5), .unset, .unset, .unset, .unset, .unset] [(.long q0), (.int (2 : Int32))])
    refine Goes.go (fun _ => XS.lloadN S.here B.x rfl (B.d at_53) rfl) ?_
    show Goes _ _ _ _ T (mkF m 54 #[.val (.long q0), .second, .val (.long q1), .second, .val (.long q2), .second, .val (.int p3), .val (.int (2 : Int32)), .val (.ref b5), .unset, .unset, .unset, .unset, .unset] [(.long q1), (.long q0), (.int (2 : Int32))])
    refine Goes.callS (argsL := [(.int (2 : Int32)), (.long q0), (.long q1)]) (rest := []) (W := 0) S B (rm_latest l Z aw hw (2 : Int32) q0 q1 _ n0) (w21 hw) (w22 hw) (w23 hw) (w24 hw) (by decide) (by decide) (by decide) (by decide) (by decide) rfl (lenOf pd_2 rfl) rfl (Nat.le_of_eq rfl) at_54 ?_
    intro v T h S hQ
    obtain ⟨rfl, hh⟩ := hQ
    replace hh := hh.symm
    subst hh
    show Goes _ _ _ _ T (mkF m 57 #[.val (.long q0), .second, .val (.long q1), .second, .val (.long q2), .second, .val (.int p3), .val (.int (2 : Int32)), .val (.ref b5), .unset, .unset, .unset, .unset, .unset] [(.long (own_latest (2 : Int32) q0 q1))])
    rw [show (own_latest (2 : Int32) q0 q1) = (own_max (own_max (-1 : Int64) q0) q1) from own_l2 _ _]
    show Goes _ _ _ _ T (mkF m 57 #[.val (.long q0), .second, .val (.long q1), .second, .val (.long q2), .second, .val (.int p3), .val (.int (2 : Int32)), .val (.ref b5), .unset, .unset, .unset, .unset, .unset] [(.long (own_max (own_max (-1 : Int64) q0) q1))])
    generalize (own_max (own_max (-1 : Int64) q0) q1) = ee at *
    show Goes _ _ _ _ T (mkF m 57 #[.val (.long q0), .second, .val (.long q1), .second, .val (.long q2), .second, .val (.int p3), .val (.int (2 : Int32)), .val (.ref b5), .unset, .unset, .unset, .unset, .unset] [(.long ee)])
    refine Goes.go (fun _ => XS.lstore S.here B.x rfl (B.d at_57) rfl (l' := #[.val (.long q0), .second, .val (.long q1), .second, .val (.long q2), .second, .val (.int p3), .val (.int (2 : Int32)), .val (.ref b5), .val (.long ee), .second, .unset, .unset, .unset]) rfl) ?_
    show Goes _ _ _ _ T (mkF m 59 #[.val (.long q0), .second, .val (.long q1), .second, .val (.long q2), .second, .val (.int p3), .val (.int (2 : Int32)), .val (.ref b5), .val (.long ee), .second, .unset, .unset, .unset] [])
    refine Goes.go (fun _ => XS.aload S.here B.x rfl (B.d at_59) rfl rfl) ?_
    show Goes _ _ _ _ T (mkF m 61 #[.val (.long q0), .second, .val (.long q1), .second, .val (.long q2), .second, .val (.int p3), .val (.int (2 : Int32)), .val (.ref b5), .val (.long ee), .second, .unset, .unset, .unset] [(.ref b5)])
    refine Goes.go (fun _ => XS.lload S.here B.x rfl (B.d at_61) rfl) ?_
    show Goes _ _ _ _ T (mkF m 63 #[.val (.long q0), .second, .val (.long q1), .second, .val (.long q2), .second, .val (.int p3), .val (.int (2 : Int32)), .val (.ref b5), .val (.long ee), .second, .unset, .unset, .unset] [(.long q2), (.ref b5)])
    refine Goes.callV (argsL := [(.long q2)]) (rest := []) (W := 0) S B (rm_awaits l Z aw hw b5 q2 ee _ n0 F_b5_lastNotice) E_b5 (w27 hw) (w28 hw) (w30 hw) (w29 hw) (w2 hw) (w31 hw) (by decide) (by decide) (by decide) (by decide) (by decide) rfl (lenOf pd_3 rfl) rfl (Nat.le_of_eq rfl) at_63 ?_
    intro v T h S hQ
    obtain ⟨rfl, hh⟩ := hQ
    replace hh := hh.symm
    subst hh
    show Goes _ _ _ _ T (mkF m 66 #[.val (.long q0), .second, .val (.long q1), .second, .val (.long q2), .second, .val (.int p3), .val (.int (2 : Int32)), .val (.ref b5), .val (.long ee), .second, .unset, .unset, .unset] [(.int (bi (¬ ee < q2)))])
    refine Goes.go (fun _ => XS.lload S.here B.x rfl (B.d at_66) rfl) ?_
    show Goes _ _ _ _ T (mkF m 68 #[.val (.long q0), .second, .val (.long q1), .second, .val (.long q2), .second, .val (.int p3), .val (.int (2 : Int32)), .val (.ref b5), .val (.long ee), .second, .unset, .unset, .unset] [(.long ee), (.int (bi (¬ ee < q2)))])
    refine Goes.go (fun _ => XS.lload S.here B.x rfl (B.d at_68) rfl) ?_
    show Goes _ _ _ _ T (mkF m 70 #[.val (.long q0), .second, .val (.long q1), .second, .val (.long q2), .second, .val (.int p3), .val (.int (2 : Int32)), .val (.ref b5), .val (.long ee), .second, .unset, .unset, .unset] [(.long q2), (.long ee), (.int (bi (¬ ee < q2)))])
    refine Goes.go (fun _ => XS.lcmp S.here B.x rfl (B.d at_70) rfl) ?_
    show Goes _ _ _ _ T (mkF m 71 #[.val (.long q0), .second, .val (.long q1), .second, .val (.long q2), .second, .val (.int p3), .val (.int (2 : Int32)), .val (.ref b5), .val (.long ee), .second, .unset, .unset, .unset] [(.int (lcmpW ee q2)), (.int (bi (¬ ee < q2)))])
    refine Goes.dia (P := ¬ (ee < q2)) (mk := fun z => (mkF m 79 #[.val (.long q0), .second, .val (.long q1), .second, .val (.long q2), .second, .val (.int p3), .val (.int (2 : Int32)), .val (.ref b5), .val (.long ee), .second, .unset, .unset, .unset] [(.int z), (.int (bi (¬ ee < q2)))])) (fun hc71 kk => ?_) (fun hc71 kk => ?_) ?_
    · skip
      refine Goes.go (fun _ => XS.ifNo S.here B.x rfl (B.d at_71) rfl ((if0 _ _).trans (flt (mt (lw_lt ee q2).mp hc71)).1)) ?_
      show Goes _ _ _ _ T (mkF m 74 #[.val (.long q0), .second, .val (.long q1), .second, .val (.long q2), .second, .val (.int p3), .val (.int (2 : Int32)), .val (.ref b5), .val (.long ee), .second, .unset, .unset, .unset] [(.int (bi (¬ ee < q2)))])
      refine Goes.go (fun _ => XS.iconst S.here B.x rfl (B.d at_74)) ?_
      show Goes _ _ _ _ T (mkF m 75 #[.val (.long q0), .second, .val (.long q1), .second, .val (.long q2), .second, .val (.int p3), .val (.int (2 : Int32)), .val (.ref b5), .val (.long ee), .second, .unset, .unset, .unset] [(.int (1 : Int32)), (.int (bi (¬ ee < q2)))])
      refine Goes.go (fun _ => XS.goto S.here B.x rfl (pc0 := 75) (pc' := 79) rfl (B.d at_75) (by decide) (by decide)) ?_
      show Goes _ _ _ _ T (mkF m 79 #[.val (.long q0), .second, .val (.long q1), .second, .val (.long q2), .second, .val (.int p3), .val (.int (2 : Int32)), .val (.ref b5), .val (.long ee), .second, .unset, .unset, .unset] [(.int (1 : Int32)), (.int (bi (¬ ee < q2)))])
      exact kk
    · skip
      refine Goes.go (fun _ => XS.ifYes S.here B.x rfl (pc0 := 71) (pc' := 78) rfl (B.d at_71) rfl ((if0 _ _).trans (tlt ((lw_lt ee q2).mpr (Classical.not_not.mp hc71))).1) (by decide) (by decide)) ?_
      show Goes _ _ _ _ T (mkF m 78 #[.val (.long q0), .second, .val (.long q1), .second, .val (.long q2), .second, .val (.int p3), .val (.int (2 : Int32)), .val (.ref b5), .val (.long ee), .second, .unset, .unset, .unset] [(.int (bi (¬ ee < q2)))])
      refine Goes.go (fun _ => XS.iconst S.here B.x rfl (B.d at_78)) ?_
      show Goes _ _ _ _ T (mkF m 79 #[.val (.long q0), .second, .val (.long q1), .second, .val (.long q2), .second, .val (.int p3), .val (.int (2 : Int32)), .val (.ref b5), .val (.long ee), .second, .unset, .unset, .unset] [(.int (0 : Int32)), (.int (bi (¬ ee < q2)))])
      exact kk
    show Goes _ _ _ _ T (mkF m 79 #[.val (.long q0), .second, .val (.long q1), .second, .val (.long q2), .second, .val (.int p3), .val (.int (2 : Int32)), .val (.ref b5), .val (.long ee), .second, .unset, .unset, .unset] [(.int (bi (¬ (ee < q2)))), (.int (bi (¬ ee < q2)))])
    refine Goes.go (fun _ => XS.icmpNo S.here B.x rfl (B.d at_79) rfl (teq (show (bi (¬ ee < q2)) = (bi (¬ (ee < q2))) from rfl)).2) ?_
    show Goes _ _ _ _ T (mkF m 82 #[.val (.long q0), .second, .val (.long q1), .second, .val (.long q2), .second, .val (.int p3), .val (.int (2 : Int32)), .val (.ref b5), .val (.long ee), .second, .unset, .unset, .unset] [])
    refine Goes.go (fun _ => XS.iconst S.here B.x rfl (B.d at_82)) ?_
    show Goes _ _ _ _ T (mkF m 83 #[.val (.long q0), .second, .val (.long q1), .second, .val (.long q2), .second, .val (.int p3), .val (.int (2 : Int32)), .val (.ref b5), .val (.long ee), .second, .unset, .unset, .unset] [(.int (1 : Int32))])
    refine Goes.go (fun _ => XS.goto S.here B.x rfl (pc0 := 83) (pc' := 87) rfl (B.d at_83) (by decide) (by decide)) ?_
    show Goes _ _ _ _ T (mkF m 87 #[.val (.long q0), .second, .val (.long q1), .second, .val (.long q2), .second, .val (.int p3), .val (.int (2 : Int32)), .val (.ref b5), .val (.long ee), .second, .unset, .unset, .unset] [(.int (1 : Int32))])
    refine Goes.go (fun _ => XS.istore S.here B.x rfl (B.d at_87) rfl (l' := #[.val (.long q0), .second, .val (.long q1), .second, .val (.long q2), .second, .val (.int p3), .val (.int (2 : Int32)), .val (.ref b5), .val (.long ee), .second, .val (.int (1 : Int32)), .unset, .unset]) rfl) ?_
    show Goes _ _ _ _ T (mkF m 89 #[.val (.long q0), .second, .val (.long q1), .second, .val (.long q2), .second, .val (.int p3), .val (.int (2 : Int32)), .val (.ref b5), .val (.long ee), .second, .val (.int (1 : Int32)), .unset, .unset] [])
    refine Goes.go (fun _ => XS.aload S.here B.x rfl (B.d at_89) rfl rfl) ?_
    show Goes _ _ _ _ T (mkF m 91 #[.val (.long q0), .second, .val (.long q1), .second, .val (.long q2), .second, .val (.int p3), .val (.int (2 : Int32)), .val (.ref b5), .val (.long ee), .second, .val (.int (1 : Int32)), .unset, .unset] [(.ref b5)])
    refine Goes.go (fun _ => XS.lload S.here B.x rfl (B.d at_91) rfl) ?_
    show Goes _ _ _ _ T (mkF m 93 #[.val (.long q0), .second, .val (.long q1), .second, .val (.long q2), .second, .val (.int p3), .val (.int (2 : Int32)), .val (.ref b5), .val (.long ee), .second, .val (.int (1 : Int32)), .unset, .unset] [(.long ee), (.ref b5)])
    refine Goes.callV (argsL := [(.long ee)]) (rest := []) (W := 0) S B (rm_awaits l Z aw hw b5 ee ee _ n0 F_b5_lastNotice) E_b5 (w27 hw) (w28 hw) (w30 hw) (w29 hw) (w2 hw) (w31 hw) (by decide) (by decide) (by decide) (by decide) (by decide) rfl (lenOf pd_3 rfl) rfl (Nat.le_of_eq rfl) at_93 ?_
    intro v T h S hQ
    obtain ⟨rfl, hh⟩ := hQ
    replace hh := hh.symm
    subst hh
    show Goes _ _ _ _ T (mkF m 96 #[.val (.long q0), .second, .val (.long q1), .second, .val (.long q2), .second, .val (.int p3), .val (.int (2 : Int32)), .val (.ref b5), .val (.long ee), .second, .val (.int (1 : Int32)), .unset, .unset] [(.int (bi (¬ ee < ee)))])
    refine Goes.go (fun _ => XS.istore S.here B.x rfl (B.d at_96) rfl (l' := #[.val (.long q0), .second, .val (.long q1), .second, .val (.long q2), .second, .val (.int p3), .val (.int (2 : Int32)), .val (.ref b5), .val (.long ee), .second, .val (.int (1 : Int32)), .val (.int (bi (¬ ee < ee))), .unset]) rfl) ?_
    show Goes _ _ _ _ T (mkF m 98 #[.val (.long q0), .second, .val (.long q1), .second, .val (.long q2), .second, .val (.int p3), .val (.int (2 : Int32)), .val (.ref b5), .val (.long ee), .second, .val (.int (1 : Int32)), .val (.int (bi (¬ ee < ee))), .unset] [])
    refine Goes.go (fun _ => XS.lload S.here B.x rfl (B.d at_98) rfl) ?_
    show Goes _ _ _ _ T (mkF m 100 #[.val (.long q0), .second, .val (.long q1), .second, .val (.long q2), .second, .val (.int p3), .val (.int (2 : Int32)), .val (.ref b5), .val (.long ee), .second, .val (.int (1 : Int32)), .val (.int (bi (¬ ee < ee))), .unset] [(.long ee)])
    refine Goes.ldcL S B (w32 hw) at_100 ?_
    show Goes _ _ _ _ T (mkF m 103 #[.val (.long q0), .second, .val (.long q1), .second, .val (.long q2), .second, .val (.int p3), .val (.int (2 : Int32)), .val (.ref b5), .val (.long ee), .second, .val (.int (1 : Int32)), .val (.int (bi (¬ ee < ee))), .unset] [(.long (9223372036854775807 : Int64)), (.long ee)])
    refine Goes.go (fun _ => XS.lcmp S.here B.x rfl (B.d at_103) rfl) ?_
    show Goes _ _ _ _ T (mkF m 104 #[.val (.long q0), .second, .val (.long q1), .second, .val (.long q2), .second, .val (.int p3), .val (.int (2 : Int32)), .val (.ref b5), .val (.long ee), .second, .val (.int (1 : Int32)), .val (.int (bi (¬ ee < ee))), .unset] [(.int (lcmpW ee (9223372036854775807 : Int64)))])
    by_cases hc104 : ee = (9223372036854775807 : Int64)
    · skip
      refine Goes.go (fun _ => XS.ifYes S.here B.x rfl (pc0 := 104) (pc' := 119) rfl (B.d at_104) rfl ((if0 _ _).trans (teq ((lw_eq ee (9223372036854775807 : Int64)).mpr hc104)).1) (by decide) (by decide)) ?_
      show Goes _ _ _ _ T (mkF m 119 #[.val (.long q0), .second, .val (.long q1), .second, .val (.long q2), .second, .val (.int p3), .val (.int (2 : Int32)), .val (.ref b5), .val (.long ee), .second, .val (.int (1 : Int32)), .val (.int (bi (¬ ee < ee))), .unset] [])
      refine Goes.go (fun _ => XS.iconst S.here B.x rfl (B.d at_119)) ?_
      show Goes _ _ _ _ T (mkF m 120 #[.val (.long q0), .second, .val (.long q1), .second, .val (.long q2), .second, .val (.int p3), .val (.int (2 : Int32)), .val (.ref b5), .val (.long ee), .second, .val (.int (1 : Int32)), .val (.int (bi (¬ ee < ee))), .unset] [(.int (1 : Int32))])
      refine Goes.go (fun _ => XS.goto S.here B.x rfl (pc0 := 120) (pc' := 124) rfl (B.d at_120) (by decide) (by decide)) ?_
      show Goes _ _ _ _ T (mkF m 124 #[.val (.long q0), .second, .val (.long q1), .second, .val (.long q2), .second, .val (.int p3), .val (.int (2 : Int32)), .val (.ref b5), .val (.long ee), .second, .val (.int (1 : Int32)), .val (.int (bi (¬ ee < ee))), .unset] [(.int (1 : Int32))])
      refine Goes.go (fun _ => XS.istore S.here B.x rfl (B.d at_124) rfl (l' := #[.val (.long q0), .second, .val (.long q1), .second, .val (.long q2), .second, .val (.int p3), .val (.int (2 : Int32)), .val (.ref b5), .val (.long ee), .second, .val (.int (1 : Int32)), .val (.int (bi (¬ ee < ee))), .val (.int (1 : Int32))]) rfl) ?_
      show Goes _ _ _ _ T (mkF m 126 #[.val (.long q0), .second, .val (.long q1), .second, .val (.long q2), .second, .val (.int p3), .val (.int (2 : Int32)), .val (.ref b5), .val (.long ee), .second, .val (.int (1 : Int32)), .val (.int (bi (¬ ee < ee))), .val (.int (1 : Int32))] [])
      refine Goes.go (fun _ => XS.iload S.here B.x rfl (B.d at_126) rfl) ?_
      show Goes _ _ _ _ T (mkF m 128 #[.val (.long q0), .second, .val (.long q1), .second, .val (.long q2), .second, .val (.int p3), .val (.int (2 : Int32)), .val (.ref b5), .val (.long ee), .second, .val (.int (1 : Int32)), .val (.int (bi (¬ ee < ee))), .val (.int (1 : Int32))] [(.int (1 : Int32))])
      refine Goes.go (fun _ => XS.ifNo S.here B.x rfl (B.d at_128) rfl (by decide)) ?_
      show Goes _ _ _ _ T (mkF m 131 #[.val (.long q0), .second, .val (.long q1), .second, .val (.long q2), .second, .val (.int p3), .val (.int (2 : Int32)), .val (.ref b5), .val (.long ee), .second, .val (.int (1 : Int32)), .val (.int (bi (¬ ee < ee))), .val (.int (1 : Int32))] [])
      refine Goes.go (fun _ => XS.iload S.here B.x rfl (B.d at_131) rfl) ?_
      show Goes _ _ _ _ T (mkF m 133 #[.val (.long q0), .second, .val (.long q1), .second, .val (.long q2), .second, .val (.int p3), .val (.int (2 : Int32)), .val (.ref b5), .val (.long ee), .second, .val (.int (1 : Int32)), .val (.int (bi (¬ ee < ee))), .val (.int (1 : Int32))] [(.int (bi (¬ ee < ee)))])
      refine Goes.go (fun _ => XS.ifNo S.here B.x rfl (B.d at_133) rfl ((if0 _ _).trans (feq (bi_ne (show ¬ ee < ee from fun q => own_irr _ q))).1)) ?_
      show Goes _ _ _ _ T (mkF m 136 #[.val (.long q0), .second, .val (.long q1), .second, .val (.long q2), .second, .val (.int p3), .val (.int (2 : Int32)), .val (.ref b5), .val (.long ee), .second, .val (.int (1 : Int32)), .val (.int (bi (¬ ee < ee))), .val (.int (1 : Int32))] [])
      refine Goes.go (fun _ => XS.iload S.here B.x rfl (B.d at_136) rfl) ?_
      show Goes _ _ _ _ T (mkF m 138 #[.val (.long q0), .second, .val (.long q1), .second, .val (.long q2), .second, .val (.int p3), .val (.int (2 : Int32)), .val (.ref b5), .val (.long ee), .second, .val (.int (1 : Int32)), .val (.int (bi (¬ ee < ee))), .val (.int (1 : Int32))] [(.int (1 : Int32))])
      refine Goes.go (fun _ => XS.ifNo S.here B.x rfl (B.d at_138) rfl (by decide)) ?_
      show Goes _ _ _ _ T (mkF m 141 #[.val (.long q0), .second, .val (.long q1), .second, .val (.long q2), .second, .val (.int p3), .val (.int (2 : Int32)), .val (.ref b5), .val (.long ee), .second, .val (.int (1 : Int32)), .val (.int (bi (¬ ee < ee))), .val (.int (1 : Int32))] [])
      refine Goes.go (fun _ => XS.iconst S.here B.x rfl (B.d at_141)) ?_
      show Goes _ _ _ _ T (mkF m 142 #[.val (.long q0), .second, .val (.long q1), .second, .val (.long q2), .second, .val (.int p3), .val (.int (2 : Int32)), .val (.ref b5), .val (.long ee), .second, .val (.int (1 : Int32)), .val (.int (bi (¬ ee < ee))), .val (.int (1 : Int32))] [(.int (1 : Int32))])
      refine Goes.go (fun _ => XS.goto S.here B.x rfl (pc0 := 142) (pc' := 146) rfl (B.d at_142) (by decide) (by decide)) ?_
      show Goes _ _ _ _ T (mkF m 146 #[.val (.long q0), .second, .val (.long q1), .second, .val (.long q2), .second, .val (.int p3), .val (.int (2 : Int32)), .val (.ref b5), .val (.long ee), .second, .val (.int (1 : Int32)), .val (.int (bi (¬ ee < ee))), .val (.int (1 : Int32))] [(.int (1 : Int32))])
      refine Goes.retN S B (by simp) at_146 (by decide) (by decide) ?_
      exact rfl
    · skip
      refine Goes.go (fun _ => XS.ifNo S.here B.x rfl (B.d at_104) rfl ((if0 _ _).trans (feq (mt (lw_eq ee (9223372036854775807 : Int64)).mp hc104)).1)) ?_
      show Goes _ _ _ _ T (mkF m 107 #[.val (.long q0), .second, .val (.long q1), .second, .val (.long q2), .second, .val (.int p3), .val (.int (2 : Int32)), .val (.ref b5), .val (.long ee), .second, .val (.int (1 : Int32)), .val (.int (bi (¬ ee < ee))), .unset] [])
      refine Goes.go (fun _ => XS.aload S.here B.x rfl (B.d at_107) rfl rfl) ?_
      show Goes _ _ _ _ T (mkF m 109 #[.val (.long q0), .second, .val (.long q1), .second, .val (.long q2), .second, .val (.int p3), .val (.int (2 : Int32)), .val (.ref b5), .val (.long ee), .second, .val (.int (1 : Int32)), .val (.int (bi (¬ ee < ee))), .unset] [(.ref b5)])
      refine Goes.go (fun _ => XS.lload S.here B.x rfl (B.d at_109) rfl) ?_
      show Goes _ _ _ _ T (mkF m 111 #[.val (.long q0), .second, .val (.long q1), .second, .val (.long q2), .second, .val (.int p3), .val (.int (2 : Int32)), .val (.ref b5), .val (.long ee), .second, .val (.int (1 : Int32)), .val (.int (bi (¬ ee < ee))), .unset] [(.long ee), (.ref b5)])
      refine Goes.go (fun _ => XS.lconst S.here B.x rfl (B.d at_111)) ?_
      show Goes _ _ _ _ T (mkF m 112 #[.val (.long q0), .second, .val (.long q1), .second, .val (.long q2), .second, .val (.int p3), .val (.int (2 : Int32)), .val (.ref b5), .val (.long ee), .second, .val (.int (1 : Int32)), .val (.int (bi (¬ ee < ee))), .unset] [(.long (1 : Int64)), (.long ee), (.ref b5)])
      refine Goes.go (fun _ => XS.ladd S.here B.x rfl (B.d at_112) rfl) ?_
      show Goes _ _ _ _ T (mkF m 113 #[.val (.long q0), .second, .val (.long q1), .second, .val (.long q2), .second, .val (.int p3), .val (.int (2 : Int32)), .val (.ref b5), .val (.long ee), .second, .val (.int (1 : Int32)), .val (.int (bi (¬ ee < ee))), .unset] [(.long (ee + (1 : Int64))), (.ref b5)])
      refine Goes.callV (argsL := [(.long (ee + (1 : Int64)))]) (rest := []) (W := 0) S B (rm_awaits l Z aw hw b5 (ee + (1 : Int64)) ee _ n0 F_b5_lastNotice) E_b5 (w27 hw) (w28 hw) (w30 hw) (w29 hw) (w2 hw) (w31 hw) (by decide) (by decide) (by decide) (by decide) (by decide) rfl (lenOf pd_3 rfl) rfl (Nat.le_of_eq rfl) at_113 ?_
      intro v T h S hQ
      obtain ⟨rfl, hh⟩ := hQ
      replace hh := hh.symm
      subst hh
      show Goes _ _ _ _ T (mkF m 116 #[.val (.long q0), .second, .val (.long q1), .second, .val (.long q2), .second, .val (.int p3), .val (.int (2 : Int32)), .val (.ref b5), .val (.long ee), .second, .val (.int (1 : Int32)), .val (.int (bi (¬ ee < ee))), .unset] [(.int (bi (¬ ee < (ee + (1 : Int64)))))])
      refine Goes.go (fun _ => XS.ifNo S.here B.x rfl (B.d at_116) rfl ((if0 _ _).trans (teq (bi_neg (show ¬ (¬ ee < (ee + (1 : Int64))) from fun q => q (own_up ee hc104)))).2)) ?_
      show Goes _ _ _ _ T (mkF m 119 #[.val (.long q0), .second, .val (.long q1), .second, .val (.long q2), .second, .val (.int p3), .val (.int (2 : Int32)), .val (.ref b5), .val (.long ee), .second, .val (.int (1 : Int32)), .val (.int (bi (¬ ee < ee))), .unset] [])
      refine Goes.go (fun _ => XS.iconst S.here B.x rfl (B.d at_119)) ?_
      show Goes _ _ _ _ T (mkF m 120 #[.val (.long q0), .second, .val (.long q1), .second, .val (.long q2), .second, .val (.int p3), .val (.int (2 : Int32)), .val (.ref b5), .val (.long ee), .second, .val (.int (1 : Int32)), .val (.int (bi (¬ ee < ee))), .unset] [(.int (1 : Int32))])
      refine Goes.go (fun _ => XS.goto S.here B.x rfl (pc0 := 120) (pc' := 124) rfl (B.d at_120) (by decide) (by decide)) ?_
      show Goes _ _ _ _ T (mkF m 124 #[.val (.long q0), .second, .val (.long q1), .second, .val (.long q2), .second, .val (.int p3), .val (.int (2 : Int32)), .val (.ref b5), .val (.long ee), .second, .val (.int (1 : Int32)), .val (.int (bi (¬ ee < ee))), .unset] [(.int (1 : Int32))])
      refine Goes.go (fun _ => XS.istore S.here B.x rfl (B.d at_124) rfl (l' := #[.val (.long q0), .second, .val (.long q1), .second, .val (.long q2), .second, .val (.int p3), .val (.int (2 : Int32)), .val (.ref b5), .val (.long ee), .second, .val (.int (1 : Int32)), .val (.int (bi (¬ ee < ee))), .val (.int (1 : Int32))]) rfl) ?_
      show Goes _ _ _ _ T (mkF m 126 #[.val (.long q0), .second, .val (.long q1), .second, .val (.long q2), .second, .val (.int p3), .val (.int (2 : Int32)), .val (.ref b5), .val (.long ee), .second, .val (.int (1 : Int32)), .val (.int (bi (¬ ee < ee))), .val (.int (1 : Int32))] [])
      refine Goes.go (fun _ => XS.iload S.here B.x rfl (B.d at_126) rfl) ?_
      show Goes _ _ _ _ T (mkF m 128 #[.val (.long q0), .second, .val (.long q1), .second, .val (.long q2), .second, .val (.int p3), .val (.int (2 : Int32)), .val (.ref b5), .val (.long ee), .second, .val (.int (1 : Int32)), .val (.int (bi (¬ ee < ee))), .val (.int (1 : Int32))] [(.int (1 : Int32))])
      refine Goes.go (fun _ => XS.ifNo S.here B.x rfl (B.d at_128) rfl (by decide)) ?_
      show Goes _ _ _ _ T (mkF m 131 #[.val (.long q0), .second, .val (.long q1), .second, .val (.long q2), .second, .val (.int p3), .val (.int (2 : Int32)), .val (.ref b5), .val (.long ee), .second, .val (.int (1 : Int32)), .val (.int (bi (¬ ee < ee))), .val (.int (1 : Int32))] [])
      refine Goes.go (fun _ => XS.iload S.here B.x rfl (B.d at_131) rfl) ?_
      show Goes _ _ _ _ T (mkF m 133 #[.val (.long q0), .second, .val (.long q1), .second, .val (.long q2), .second, .val (.int p3), .val (.int (2 : Int32)), .val (.ref b5), .val (.long ee), .second, .val (.int (1 : Int32)), .val (.int (bi (¬ ee < ee))), .val (.int (1 : Int32))] [(.int (bi (¬ ee < ee)))])
      refine Goes.go (fun _ => XS.ifNo S.here B.x rfl (B.d at_133) rfl ((if0 _ _).trans (feq (bi_ne (show ¬ ee < ee from fun q => own_irr _ q))).1)) ?_
      show Goes _ _ _ _ T (mkF m 136 #[.val (.long q0), .second, .val (.long q1), .second, .val (.long q2), .second, .val (.int p3), .val (.int (2 : Int32)), .val (.ref b5), .val (.long ee), .second, .val (.int (1 : Int32)), .val (.int (bi (¬ ee < ee))), .val (.int (1 : Int32))] [])
      refine Goes.go (fun _ => XS.iload S.here B.x rfl (B.d at_136) rfl) ?_
      show Goes _ _ _ _ T (mkF m 138 #[.val (.long q0), .second, .val (.long q1), .second, .val (.long q2), .second, .val (.int p3), .val (.int (2 : Int32)), .val (.ref b5), .val (.long ee), .second, .val (.int (1 : Int32)), .val (.int (bi (¬ ee < ee))), .val (.int (1 : Int32))] [(.int (1 : Int32))])
      refine Goes.go (fun _ => XS.ifNo S.here B.x rfl (B.d at_138) rfl (by decide)) ?_
      show Goes _ _ _ _ T (mkF m 141 #[.val (.long q0), .second, .val (.long q1), .second, .val (.long q2), .second, .val (.int p3), .val (.int (2 : Int32)), .val (.ref b5), .val (.long ee), .second, .val (.int (1 : Int32)), .val (.int (bi (¬ ee < ee))), .val (.int (1 : Int32))] [])
      refine Goes.go (fun _ => XS.iconst S.here B.x rfl (B.d at_141)) ?_
      show Goes _ _ _ _ T (mkF m 142 #[.val (.long q0), .second, .val (.long q1), .second, .val (.long q2), .second, .val (.int p3), .val (.int (2 : Int32)), .val (.ref b5), .val (.long ee), .second, .val (.int (1 : Int32)), .val (.int (bi (¬ ee < ee))), .val (.int (1 : Int32))] [(.int (1 : Int32))])
      refine Goes.go (fun _ => XS.goto S.here B.x rfl (pc0 := 142) (pc' := 146) rfl (B.d at_142) (by decide) (by decide)) ?_
      show Goes _ _ _ _ T (mkF m 146 #[.val (.long q0), .second, .val (.long q1), .second, .val (.long q2), .second, .val (.int p3), .val (.int (2 : Int32)), .val (.ref b5), .val (.long ee), .second, .val (.int (1 : Int32)), .val (.int (bi (¬ ee < ee))), .val (.int (1 : Int32))] [(.int (1 : Int32))])
      refine Goes.retN S B (by simp) at_146 (by decide) (by decide) ?_
      exact rfl
set_option maxRecDepth 65536 in
set_option maxHeartbeats 40000000 in
theorem comes_1 {Post : Tables → Env → Array Value → State → Outcome → State → Prop} (hpost : ∀ tb e args s v u, (limb_1_1.after args s (.returned v) u = true ∧ limb_1_2.after args s (.returned v) u = true ∧ True) → FrameEnd s (.returned v) u (Jvm.fieldLocs frame_1_writes args s ++ Jvm.arrayLocs frame_1_arrays args s ++ Jvm.staticLocs frame_1_statics s) 16 128 → Post tb e args s (.returned v) u) :
    ArmFor flags0 classFile x code maxLocals ret World_1 tables_1 room_1 Calls_1 rest_1 Pre_1 Post := by
  intro l hfl _ _ p e ha hc hk s m args below hf hA hF happ hP
  obtain ⟨hcalls, hrest, hpre⟩ := hP
  obtain ⟨-, -, -, hnamed, -, -, -, hat⟩ := (Spec.applies_iff hf).mp happ
  obtain ⟨hg, hn⟩ := and_e (Cond.before_iff.mp (show (Jvm.Cond.and given_1 narrow_1).before args s = true from hpre))
  obtain ⟨g0, k0⟩ := and_e hg
  obtain ⟨g1, k1⟩ := and_e k0
  obtain ⟨g2, k2⟩ := and_e k1
  obtain ⟨g3, k3⟩ := and_e k2
  have g4 := k3
  obtain ⟨w0, w1, w2, w3, rfl⟩ : ∃ w0 w1 w2 w3 : Value, args = #[w0, w1, w2, w3] := by
    have hs : args.size = 4 := by simpa [Cond.value, given_1] using g0
    obtain ⟨L⟩ := args
    match L, hs with
    | [w0, w1, w2, w3], _ => exact ⟨w0, w1, w2, w3, rfl⟩
  have hw := fun d (hd : d ∈ tables_1) => atoms_spec (ws := Jvm.Cond.code x code maxLocals ret :: tables_1) hat d (List.mem_cons_of_mem _ hd)
  obtain ⟨i0, ei0⟩ := isL_v g1
  obtain rfl : w0 = (.long i0) := Option.some.inj ei0
  obtain ⟨i1, ei1⟩ := isL_v g2
  obtain rfl : w1 = (.long i1) := Option.some.inj ei1
  obtain ⟨i2, ei2⟩ := isL_v g3
  obtain rfl : w2 = (.long i2) := Option.some.inj ei2
  obtain ⟨i3, ei3⟩ := is_v g4
  obtain rfl : w3 = (.int i3) := Option.some.inj ei3
  obtain ⟨n, o, h1, h2, h3, _, L, rfl, ⟨N, rfl⟩, hq⟩ := rm0 l s _ hw i0 i1 i2 i3 s.heap s.heap.size (Nat.le_refl _) tables_1 p e ha hc hk s m _ below hf ((Spec.applies_iff_loose hf).mp happ).1 ⟨rfl, State.Warmed39.refl s, rfl⟩ trivial
  refine ⟨n, _, h1, h2, h3, hpost _ _ _ _ _ _ ⟨Cond.after_iff.mpr rfl, Cond.after_iff.mpr (eq_i res_at (Term.int_eval (1)) rfl), trivial⟩ ⟨hq.1, hq.2.1, (hq.2.2.sift fun y hy => Or.inr (N y hy)).mono (by decide) (by decide)⟩⟩
theorem main_1_1 : Claimed_1_1 := comes_1 fun _ _ _ _ _ _ h hF => ⟨h.1, hF⟩
theorem main_1_2 : Claimed_1_2 := comes_1 fun _ _ _ _ _ _ h hF => ⟨h.2.1, hF⟩
end Jvm.Pilot.@@N@@
namespace Jvm.Pilot.@@N@@
open Jvm Jvm.ClassFile Sem Op Lib Jvm.Free Jvm.Stand Jvm.Pilot.@@N@@.Jvm.D
/-! MADE BY PROGRAM (witnessworld.py) out of the Statement's table words and the real class files: 10 classes; the members and pool entries that the words name. The judged class is class 1, her method 2. -/
namespace start1
open Jvm.ClassFile
def u (s : String) : CpInfo := .utf8 (stringToUtf16 s)
/-- a pool by its gaps: so many unusable entries, then the entry; so many at the end -/
def gap : Nat → List CpInfo → List CpInfo
  | 0, r => r
  | n + 1, r => .unusable :: gap n r
def poolList (es : List (Nat × CpInfo)) (last : Nat) : List CpInfo := es.foldr (fun e r => gap e.1 (e.2 :: r)) (gap last [])
def pool (es : List (Nat × CpInfo)) (last : Nat) : Array CpInfo := ⟨poolList es last⟩
def fileOf (pool : Array CpInfo) (this : Nat) (attrs : Array Attribute := #[]) (ms : Array MethodInfo := #[]) (fl : Nat := 33) (sup : Nat := 0) (ifs : Array Nat := #[]) (fds : Array FieldInfo := #[]) : ClassFile where
  minorVersion := 0
  majorVersion := 65
  constantPool := pool
  accessFlags := fl
  thisClass := this
  superClass := sup
  interfaces := ifs
  fields := fds
  methods := ms
  attributes := attrs
def plain (name : String) (sup : Option ClassId) : Class where
  name := name
  kind := .ordinary
  loader := none
  accessFlags := 33
  super := sup
  interfaces := #[]
  cf := none
  fields := #[]
  methods := #[]
  instanceTypes := #[]
  staticTypes := #[]
  resolved := #[]
  callSites := []
  init := .initialized
  statics := none
  mirror := none

def pool0 : Array CpInfo := pool [(5, u "<init>"), (0, u "()V"), (1, .class_ 10), (1, u "java/lang/Object")] 113

def k0c0 : Code := { maxStack := 0, maxLocals := 1, code := object_method_1_code, exceptionTable := #[], attributes := #[] }
def k0m0 : Method := { name := "<init>", desc := "()V", sig := { parameters := [], returnType := none }, accessFlags := 1, code := some k0c0 }
/-- java/lang/Object -/
def k0 : Class := { plain "java/lang/Object" none with
  accessFlags := 33
  interfaces := #[]
  cf := some (fileOf pool0 8 #[] #[{ accessFlags := 1, nameIndex := 5, descriptorIndex := 6, attributes := #[] }] 33 0 #[] #[])
  fields := #[]
  methods := #[k0m0]
  instanceTypes := #[]
  staticTypes := #[]
  resolved := Array.replicate 124 none
  statics := none }

def pool1 : Array CpInfo := pool [(2, .class_ 4), (0, .nameAndType 5 6), (0, u "java/lang/Object"), (0, u "<init>"), (0, u "()V"), (0, .long 18446744073709551615), (1, .methodref 10 11), (0, .class_ 12), (0, .nameAndType 13 14), (0, u "java/lang/Math"), (0, u "max"), (0, u "(JJ)J"), (0, .class_ 16), (0, u "com/example/cormorant/cormorant/sim/Channel"), (0, .methodref 15 3), (0, .methodref 15 19), (0, .nameAndType 20 21), (0, u "notice"), (0, u "(J)J"), (0, .methodref 23 24), (0, .class_ 25), (0, .nameAndType 26 27), (0, u "com/example/cormorant/cormorant/sim/ChannelAwaitsNoticePinLaw"), (0, u "latest"), (0, u "(IJJ)J"), (0, .methodref 15 29), (0, .nameAndType 30 31), (0, u "awaitsNotice"), (0, u "(J)Z"), (2, .long 9223372036854775807), (4, u "law"), (0, u "(JJJI)Z")] 2

def k1m0 : Method := { name := "<init>", desc := "()V", sig := { parameters := [], returnType := none }, accessFlags := 1, code := none }
def k1c1 : Code := { maxStack := 4, maxLocals := 7, code := method_2_code, exceptionTable := #[], attributes := #[] }
def k1m1 : Method := { name := "latest", desc := "(IJJ)J", sig := { parameters := [.int, .long, .long], returnType := some .long }, accessFlags := 10, code := some k1c1 }
def k1c2 : Code := { maxStack := 5, maxLocals := 14, code := code, exceptionTable := #[], attributes := #[] }
def k1m2 : Method := { name := "law", desc := "(JJJI)Z", sig := { parameters := [.long, .long, .long, .int], returnType := some .boolean }, accessFlags := 9, code := some k1c2 }
/-- com/example/cormorant/cormorant/sim/ChannelAwaitsNoticePinLaw -/
def k1 : Class := { plain "com/example/cormorant/cormorant/sim/ChannelAwaitsNoticePinLaw" (some 0) with
  accessFlags := 49
  interfaces := #[]
  cf := some (fileOf pool1 23 #[] #[{ accessFlags := 1, nameIndex := 5, descriptorIndex := 6, attributes := #[] }, { accessFlags := 10, nameIndex := 26, descriptorIndex := 27, attributes := #[] }, { accessFlags := 9, nameIndex := 39, descriptorIndex := 40, attributes := #[] }] 49 2 #[] #[])
  fields := #[]
  methods := #[k1m0, k1m1, k1m2]
  instanceTypes := #[]
  staticTypes := #[]
  resolved := Array.replicate 43 none
  statics := none }

def pool2 : Array CpInfo := pool [(1, .methodref 2 3), (0, .class_ 4), (0, .nameAndType 5 6), (0, u "java/lang/Object"), (0, u "<init>"), (0, u "()V"), (0, .long 18446744073709551615), (1, .fieldref 10 11), (0, .class_ 12), (0, .nameAndType 13 14), (0, u "com/example/cormorant/cormorant/sim/Channel"), (0, u "lastNotice"), (0, u "J"), (2, u "open"), (0, u "Z"), (2, u "openings"), (2, u "lastArrival"), (0, .methodref 26 27), (0, .class_ 28), (0, .nameAndType 29 30), (0, u "java/lang/Math"), (0, u "max"), (0, u "(JJ)J"), (8, u "(J)Z"), (2, u "(J)J"), (0, u "notice"), (0, u "awaitsNotice")] 2

def k2c0 : Code := { maxStack := 3, maxLocals := 1, code := prog_70_method_1_code, exceptionTable := #[], attributes := #[] }
def k2m0 : Method := { name := "<init>", desc := "()V", sig := { parameters := [], returnType := none }, accessFlags := 0, code := some k2c0 }
def k2c1 : Code := { maxStack := 5, maxLocals := 3, code := prog_70_method_8_code, exceptionTable := #[], attributes := #[] }
def k2m1 : Method := { name := "notice", desc := "(J)J", sig := { parameters := [.long], returnType := some .long }, accessFlags := 0, code := some k2c1 }
def k2c2 : Code := { maxStack := 4, maxLocals := 3, code := prog_70_method_9_code, exceptionTable := #[], attributes := #[] }
def k2m2 : Method := { name := "awaitsNotice", desc := "(J)Z", sig := { parameters := [.long], returnType := some .boolean }, accessFlags := 0, code := some k2c2 }
/-- com/example/cormorant/cormorant/sim/Channel -/
def k2 : Class := { plain "com/example/cormorant/cormorant/sim/Channel" (some 0) with
  accessFlags := 32
  interfaces := #[]
  cf := some (fileOf pool2 10 #[] #[{ accessFlags := 0, nameIndex := 5, descriptorIndex := 6, attributes := #[] }, { accessFlags := 0, nameIndex := 43, descriptorIndex := 42, attributes := #[] }, { accessFlags := 0, nameIndex := 44, descriptorIndex := 39, attributes := #[] }] 32 2 #[] #[{ accessFlags := 2, nameIndex := 17, descriptorIndex := 18, attributes := #[] }, { accessFlags := 2, nameIndex := 21, descriptorIndex := 14, attributes := #[] }, { accessFlags := 2, nameIndex := 24, descriptorIndex := 14, attributes := #[] }, { accessFlags := 2, nameIndex := 13, descriptorIndex := 14, attributes := #[] }])
  fields := #[{ name := "open", type := .boolean, accessFlags := 2, slot := 0, constantValue := 0 }, { name := "openings", type := .long, accessFlags := 2, slot := 1, constantValue := 0 }, { name := "lastArrival", type := .long, accessFlags := 2, slot := 2, constantValue := 0 }, { name := "lastNotice", type := .long, accessFlags := 2, slot := 3, constantValue := 0 }]
  methods := #[k2m0, k2m1, k2m2]
  instanceTypes := #[.boolean, .long, .long, .long]
  staticTypes := #[]
  resolved := Array.replicate 47 none
  statics := none }

def pool3 : Array CpInfo := pool [(1, .class_ 2), (0, u "java/lang/Math"), (1, .class_ 6), (1, u "java/lang/Object"), (0, u "<init>"), (0, u "()V"), (89, .class_ 100), (1, u "java/lang/Math$RandomNumberGeneratorHolder"), (20, u "(JJ)J"), (50, u "negativeZeroFloatBits"), (0, u "J"), (2, u "negativeZeroDoubleBits"), (21, u "max"), (46, u "$assertionsDisabled"), (0, u "Z"), (91, u "twoToTheDoubleScaleDown"), (0, u "D"), (4, u "twoToTheDoubleScaleUp"), (9, u "E"), (3, u "PI"), (2, u "TAU"), (2, u "DEGREES_TO_RADIANS"), (0, u "RADIANS_TO_DEGREES")] 94

def k3m0 : Method := { name := "<init>", desc := "()V", sig := { parameters := [], returnType := none }, accessFlags := 2, code := none }
def k3c1 : Code := { maxStack := 4, maxLocals := 4, code := jdk_29_method_66_code, exceptionTable := #[], attributes := #[] }
def k3m1 : Method := { name := "max", desc := "(JJ)J", sig := { parameters := [.long, .long], returnType := some .long }, accessFlags := 9, code := some k3c1 }
/-- java/lang/Math -/
def k3 : Class := { plain "java/lang/Math" (some 0) with
  accessFlags := 49
  interfaces := #[]
  cf := some (fileOf pool3 1 #[.nestMembers #[98]] #[{ accessFlags := 2, nameIndex := 7, descriptorIndex := 8, attributes := #[] }, { accessFlags := 9, nameIndex := 198, descriptorIndex := 121, attributes := #[] }] 49 4 #[] #[{ accessFlags := 25, nameIndex := 354, descriptorIndex := 339, attributes := #[] }, { accessFlags := 25, nameIndex := 358, descriptorIndex := 339, attributes := #[] }, { accessFlags := 25, nameIndex := 361, descriptorIndex := 339, attributes := #[] }, { accessFlags := 26, nameIndex := 364, descriptorIndex := 339, attributes := #[] }, { accessFlags := 26, nameIndex := 365, descriptorIndex := 339, attributes := #[] }, { accessFlags := 26, nameIndex := 172, descriptorIndex := 173, attributes := #[] }, { accessFlags := 26, nameIndex := 176, descriptorIndex := 173, attributes := #[] }, { accessFlags := 8, nameIndex := 344, descriptorIndex := 339, attributes := #[] }, { accessFlags := 8, nameIndex := 338, descriptorIndex := 339, attributes := #[] }, { accessFlags := 4120, nameIndex := 245, descriptorIndex := 246, attributes := #[] }])
  fields := #[{ name := "E", type := .double, accessFlags := 25, slot := 0, constantValue := 0 }, { name := "PI", type := .double, accessFlags := 25, slot := 1, constantValue := 0 }, { name := "TAU", type := .double, accessFlags := 25, slot := 2, constantValue := 0 }, { name := "DEGREES_TO_RADIANS", type := .double, accessFlags := 26, slot := 3, constantValue := 0 }, { name := "RADIANS_TO_DEGREES", type := .double, accessFlags := 26, slot := 4, constantValue := 0 }, { name := "negativeZeroFloatBits", type := .long, accessFlags := 26, slot := 5, constantValue := 0 }, { name := "negativeZeroDoubleBits", type := .long, accessFlags := 26, slot := 6, constantValue := 0 }, { name := "twoToTheDoubleScaleUp", type := .double, accessFlags := 8, slot := 7, constantValue := 0 }, { name := "twoToTheDoubleScaleDown", type := .double, accessFlags := 8, slot := 8, constantValue := 0 }, { name := "$assertionsDisabled", type := .boolean, accessFlags := 4120, slot := 9, constantValue := 0 }]
  methods := #[k3m0, k3m1]
  instanceTypes := #[]
  staticTypes := #[.double, .double, .double, .double, .double, .long, .long, .double, .double, .boolean]
  resolved := Array.replicate 460 none
  statics := none }

def pool4 : Array CpInfo := pool [(1, u "java/lang/Cloneable"), (0, .class_ 1), (0, u "java/lang/Object"), (0, .class_ 3)] 3

/-- java/lang/Cloneable -/
def k4 : Class := { plain "java/lang/Cloneable" (some 0) with
  accessFlags := 1537
  interfaces := #[]
  cf := some (fileOf pool4 2 #[] #[] 1537 4 #[] #[])
  fields := #[]
  methods := #[]
  instanceTypes := #[]
  staticTypes := #[]
  resolved := Array.replicate 8 none
  statics := none }

def pool5 : Array CpInfo := pool [(1, u "java/io/Serializable"), (0, .class_ 1), (0, u "java/lang/Object"), (0, .class_ 3)] 3

/-- java/io/Serializable -/
def k5 : Class := { plain "java/io/Serializable" (some 0) with
  accessFlags := 1537
  interfaces := #[]
  cf := some (fileOf pool5 2 #[] #[] 1537 4 #[] #[])
  fields := #[]
  methods := #[]
  instanceTypes := #[]
  staticTypes := #[]
  resolved := Array.replicate 8 none
  statics := none }

/-- the primitive byte -/
def k6 : Class := { plain "byte" none with kind := .primitive 'B', accessFlags := 0x411 }
/-- [B -/
def k7 : Class := { plain "[B" (some 0) with kind := .array 6 .byte, interfaces := #[4, 5], accessFlags := 1041 }

/-- the primitive int -/
def k8 : Class := { plain "int" none with kind := .primitive 'I', accessFlags := 0x411 }
/-- [I -/
def k9 : Class := { plain "[I" (some 0) with kind := .array 8 .int, interfaces := #[4, 5], accessFlags := 1041 }

def heap : Heap := #[]
def classes : Array Class := #[k0, k1, k2, k3, k4, k5, k6, k7, k8, k9]
def interned : List (Array UInt16 × Addr) := []
def slotsUsed : Nat := 0
def theMethod : MethodId := ⟨1, 2⟩
def args0 : Array Value := #[.long 5, .long 6, .long 7, .int 2]
def aboutOver (below : List Frame) : State where
  vm := { classes := classes, interned := interned.toArray }
  heap := heap
  slotsUsed := slotsUsed
  threads := #[{ frames := .invoking theMethod args0 :: below }]
def below0 : List Frame := [.native { method := ⟨0, 0⟩, args := #[] }]
def about1 : State := aboutOver below0
def p0 : Program := .bare "" "" ""
def e0 : Env := launch0.env 0 0 0
theorem w_frames : about1.frames = Frame.invoking theMethod args0 :: below0 := rfl
set_option maxRecDepth 65536 in
theorem w_args : argsFit about1.vm theMethod args0 = true := by decide +kernel
set_option maxRecDepth 65536 in
theorem w_heap : heapFits about1 = true := by decide +kernel
set_option maxRecDepth 65536 in
theorem w_runnable : about1.curStatus? = some .runnable := by decide +kernel
set_option maxRecDepth 65536 in
theorem w_alone : about1.alone = true := by decide +kernel
set_option maxRecDepth 65536 in
theorem w_named : about1.methodNamed? x = some theMethod := by decide +kernel
set_option maxRecDepth 65536 in
theorem w_hears : about1.hears theMethod below0 = true := by decide +kernel
set_option maxRecDepth 65536 in
theorem w_ripe : about1.ripe theMethod args0 below0 = true := by decide +kernel
theorem w_running : about1.status = .running := rfl
set_option maxRecDepth 65536 in
theorem w_room : about1.hasRoom e0.platform room_1 = true :=
  launch0.hasRoom_least _ room_1 (by decide +kernel) (by decide +kernel) (by decide +kernel) (by decide +kernel) (by decide +kernel) (by decide +kernel)
theorem allAtoms_all (ts : List Jvm.Cond) (a : Array Jvm.Value) (st : Jvm.State) : (allAtoms ts).before a st = ts.all (fun c => c.before a st) := by
  induction ts with
  | nil => rfl
  | cons c t ih =>
    show (Jvm.Cond.and c (allAtoms t)).before a st = _
    rw [Jvm.Cond.before_and, ih, List.all_cons]
def words1 : List Jvm.Cond := Jvm.Cond.code x code maxLocals ret :: tables_1
/-- a 'code' word, met by the world's own term for the bytes: nothing is compared byte by byte -/
theorem code_word {y : MethodName} {bytes : ByteArray} {mx : Nat} {rt : Option FieldType} {a : Array Value} {s : State} {m : MethodId} {meth : Method} {c : Code} (h1 : s.methodNamed? y = some m) (h2 : s.vm.method? m = some meth) (h3 : meth.code = some c) (h4 : c.code = bytes)
    (h5 : (c.maxLocals == mx && c.exceptionTable.isEmpty && decide (c.maxStack ≤ mostOperands) && decide (meth.sig.returnType = rt) && !meth.locks && decide (parseMethodDescriptor y.desc = some meth.sig)) = true) : (Jvm.Cond.code y bytes mx rt).before a s = true := by
  simp only [Bool.and_eq_true, beq_iff_eq, Bool.not_eq_true', decide_eq_true_eq] at h5
  obtain ⟨⟨⟨⟨⟨g1, g2⟩, g3⟩, g4⟩, g5⟩, g6⟩ := h5
  simp [Cond.before, Cond.holds, Cond.value, h1, h2, h3, h4, g1, g2, g3, g4, g5, g6]
def isCode : Jvm.Cond → Bool
  | .code _ _ _ _ => true
  | _ => false
theorem all_split {L : List Jvm.Cond} {P : Jvm.Cond → Bool} (h1 : L.all (fun c => isCode c || P c) = true) (h2 : ∀ c ∈ L.filter isCode, P c = true) : L.all P = true := by
  refine List.all_eq_true.mpr fun c hc => ?_
  have h := List.all_eq_true.mp h1 c hc
  rcases Bool.eq_false_or_eq_true (isCode c) with hi | hi
  · exact h2 c (List.mem_filter.mpr ⟨hc, hi⟩)
  · simpa [hi] using h
set_option maxRecDepth 65536 in
theorem w_c0 : (Jvm.Cond.code x code maxLocals ret).before args0 about1 = true := code_word (m := ⟨1, 2⟩) (meth := k1m2) (c := k1c2) (by decide +kernel) rfl rfl rfl (by decide +kernel)
set_option maxRecDepth 65536 in
theorem w_c1 : (Jvm.Cond.code ({ cls := "com/example/cormorant/cormorant/sim/Channel", name := "<init>", desc := "()V" } : Jvm.MethodName) prog_70_method_1_code (1 : Nat) (Option.none : Option Jvm.ClassFile.FieldType)).before args0 about1 = true := code_word (m := ⟨2, 0⟩) (meth := k2m0) (c := k2c0) (by decide +kernel) rfl rfl rfl (by decide +kernel)
set_option maxRecDepth 65536 in
theorem w_c2 : (Jvm.Cond.code ({ cls := "java/lang/Object", name := "<init>", desc := "()V" } : Jvm.MethodName) object_method_1_code (1 : Nat) (Option.none : Option Jvm.ClassFile.FieldType)).before args0 about1 = true := code_word (m := ⟨0, 0⟩) (meth := k0m0) (c := k0c0) (by decide +kernel) rfl rfl rfl (by decide +kernel)
set_option maxRecDepth 65536 in
theorem w_c3 : (Jvm.Cond.code ({ cls := "com/example/cormorant/cormorant/sim/Channel", name := "notice", desc := "(J)J" } : Jvm.MethodName) prog_70_method_8_code (3 : Nat) (Option.some Jvm.ClassFile.FieldType.long)).before args0 about1 = true := code_word (m := ⟨2, 1⟩) (meth := k2m1) (c := k2c1) (by decide +kernel) rfl rfl rfl (by decide +kernel)
set_option maxRecDepth 65536 in
theorem w_c4 : (Jvm.Cond.code ({ cls := "java/lang/Math", name := "max", desc := "(JJ)J" } : Jvm.MethodName) jdk_29_method_66_code (4 : Nat) (Option.some Jvm.ClassFile.FieldType.long)).before args0 about1 = true := code_word (m := ⟨3, 1⟩) (meth := k3m1) (c := k3c1) (by decide +kernel) rfl rfl rfl (by decide +kernel)
set_option maxRecDepth 65536 in
theorem w_c5 : (Jvm.Cond.code ({ cls := "com/example/cormorant/cormorant/sim/ChannelAwaitsNoticePinLaw", name := "latest", desc := "(IJJ)J" } : Jvm.MethodName) method_2_code (7 : Nat) (Option.some Jvm.ClassFile.FieldType.long)).before args0 about1 = true := code_word (m := ⟨1, 1⟩) (meth := k1m1) (c := k1c1) (by decide +kernel) rfl rfl rfl (by decide +kernel)
set_option maxRecDepth 65536 in
theorem w_c6 : (Jvm.Cond.code ({ cls := "com/example/cormorant/cormorant/sim/Channel", name := "awaitsNotice", desc := "(J)Z" } : Jvm.MethodName) prog_70_method_9_code (3 : Nat) (Option.some Jvm.ClassFile.FieldType.boolean)).before args0 about1 = true := code_word (m := ⟨2, 2⟩) (meth := k2m2) (c := k2c2) (by decide +kernel) rfl rfl rfl (by decide +kernel)
def codes1 : List Jvm.Cond := [Jvm.Cond.code x code maxLocals ret, Jvm.Cond.code ({ cls := "com/example/cormorant/cormorant/sim/Channel", name := "<init>", desc := "()V" } : Jvm.MethodName) prog_70_method_1_code (1 : Nat) (Option.none : Option Jvm.ClassFile.FieldType), Jvm.Cond.code ({ cls := "java/lang/Object", name := "<init>", desc := "()V" } : Jvm.MethodName) object_method_1_code (1 : Nat) (Option.none : Option Jvm.ClassFile.FieldType), Jvm.Cond.code ({ cls := "com/example/cormorant/cormorant/sim/Channel", name := "notice", desc := "(J)J" } : Jvm.MethodName) prog_70_method_8_code (3 : Nat) (Option.some Jvm.ClassFile.FieldType.long), Jvm.Cond.code ({ cls := "java/lang/Math", name := "max", desc := "(JJ)J" } : Jvm.MethodName) jdk_29_method_66_code (4 : Nat) (Option.some Jvm.ClassFile.FieldType.long), Jvm.Cond.code ({ cls := "com/example/cormorant/cormorant/sim/ChannelAwaitsNoticePinLaw", name := "latest", desc := "(IJJ)J" } : Jvm.MethodName) method_2_code (7 : Nat) (Option.some Jvm.ClassFile.FieldType.long), Jvm.Cond.code ({ cls := "com/example/cormorant/cormorant/sim/Channel", name := "awaitsNotice", desc := "(J)Z" } : Jvm.MethodName) prog_70_method_9_code (3 : Nat) (Option.some Jvm.ClassFile.FieldType.boolean)]
set_option maxRecDepth 65536 in
theorem codes_eq : words1.filter isCode = codes1 := rfl
theorem w_codes : ∀ c ∈ words1.filter isCode, c.before args0 about1 = true := by
  rw [codes_eq]
  intro c hc
  simp only [codes1, List.mem_cons, List.not_mem_nil, or_false] at hc
  rcases hc with rfl | rfl | rfl | rfl | rfl | rfl | rfl
  · exact w_c0
  · exact w_c1
  · exact w_c2
  · exact w_c3
  · exact w_c4
  · exact w_c5
  · exact w_c6
set_option maxRecDepth 65536 in
theorem w_t1 : (words1.take 24).all (fun c => isCode c || c.before args0 about1) = true := by decide +kernel
set_option maxRecDepth 65536 in
theorem w_t2 : (words1.drop 24).all (fun c => isCode c || c.before args0 about1) = true := by decide +kernel
theorem w_tables : (allAtoms (Jvm.Cond.code x code maxLocals ret :: tables_1)).before args0 about1 = true := by
  rw [allAtoms_all]
  show words1.all (fun c => c.before args0 about1) = true
  refine all_split ?_ w_codes
  rw [← List.take_append_drop 24 words1, List.all_append, w_t1, w_t2]
  rfl
set_option maxRecDepth 65536 in
theorem w_case : (Jvm.Cond.and given_1 narrow_1).before args0 about1 = true := by decide +kernel
theorem w_applies : (headSpec (Jvm.Cond.code x code maxLocals ret :: tables_1) room_1).applies x e0.platform about1 = true :=
  (Spec.applies_iff w_frames).mpr ⟨w_running, w_runnable, w_alone, w_named, w_hears, w_ripe, w_room, w_tables⟩
theorem atStart : AtStart classFile x code maxLocals ret World_1 tables_1 room_1 Calls_1 rest_1 Pre_1 launch0 p0 e0 about1 theMethod args0 below0 :=
  ⟨lists_1, trivial, launch0.admits_env _ _ _, launch0.least_env, fairChoices_fair.cas, fairChoices_fair.clock, w_frames, w_args, w_heap, w_applies, trivial, trivial, w_case⟩
end start1
theorem witness_1 : WitnessClaimed_1 := ⟨start1.p0, start1.e0, start1.about1, start1.theMethod, start1.args0, start1.below0, start1.atStart⟩
end Jvm.Pilot.@@N@@
